import JvmDerived
import JvmDerived.Pilot.@@N@@Statement
import JvmDerived.Pilot.@@N@@Code
set_option linter.unusedVariables false
set_option linter.unusedSimpArgs false
@@BLOCK:NumsL.lean.txt@@
namespace Jvm.RoadKit
open Sem ClassFile Op Lib Jvm.Stand Jvm.Free Jvm.LawKit
section New
variable {p : Program} {l : Launch} {e : Env} {R : Room} {s : State} {m : MethodId} {args : Array Value} {below : List Frame} {meth : Method} {c : Code} {T : State} {locs : List Loc} {cells slots : Nat}
theorem retI (X : Stand p l e R s m args below meth c T locs cells slots) (hx : p.tables.exec = Jvm.exec) {pc : Nat} {Ls : Array Slot} {z : Int32} {rest : List Value} (hret : meth.sig.returnType = some .int) (hd : decode c.code pc = .ok (.ireturn, 1)) {fs : List Frame}
    (hl : ∀ (f : JFrame) (acts : List Action), f.method = m → f.locked = none → f.entered = [] → (doReturn e (T.setTop f) acts (some (.int z))).1 = T.setFrames fs) : Steps p.tables e below (T.setTop (mkF m pc Ls (.int z :: rest))) (T.setFrames fs) := by
  have hm' : T.vm.method? m = some meth := X.method'
  have hn : narrow .int (.int z) = .int z := rfl
  show Steps p.tables e below (T.setTop { method := m, pc := pc, locals := Ls, stack := _ :: rest, locked := none }) _
  jvm_step X.here [X.here.top, hx, hd, hm', hret, hn]
  first | (intro acts; rw [hl _ acts rfl rfl rfl]) | rw [hl _ _ rfl rfl rfl]
  exact Steps.refl _
end New
end Jvm.RoadKit
namespace Jvm.Pilot.@@N@@
open Jvm Jvm.ClassFile Sem Op Lib Jvm.Free Jvm.Stand Jvm.LawKit Jvm.RoadKit Bundle Jvm.Pilot.@@N@@.Jvm.D


/-! arrays: what an array holds, as a list of values (AV) or as a function of the place (AI) -/
def AV (Z : State) (h : Heap) (a : Addr) (ty : FieldType) (z : Int32) (vs : List Value) : Prop := ∃ c : Cell, Arr Z h a c ty ∧ c.slots = vs.toArray ∧ vs.length = z.toNatClampNeg ∧ ¬ z < 0
def AI (Z : State) (h : Heap) (a : Addr) (ty : FieldType) (z : Int32) (f : Nat → Int32) : Prop := ∃ c : Cell, Arr Z h a c ty ∧ c.slots.size = z.toNatClampNeg ∧ ¬ z < 0 ∧ ∀ i, i < z.toNatClampNeg → c.slots[i]? = some (.int (f i))
section Arrays
variable {Z : State} {h h' : Heap} {a b : Addr} {ty : FieldType} {z j : Int32} {vs : List Value} {f : Nat → Int32} {sl : Nat} {v : Value} {ws : List Addr} {k : ClassId}
theorem AV.lt (F : AV Z h a ty z vs) : a < h.size := by obtain ⟨c, A, -⟩ := F; exact A.lt
theorem AI.lt (F : AI Z h a ty z f) : a < h.size := by obtain ⟨c, A, -⟩ := F; exact A.lt
theorem AV.ext (F : AV Z h a ty z vs) (E : Ext h h') : AV Z h' a ty z vs := by obtain ⟨c, A, r⟩ := F; exact ⟨c, Arr.ext E A, r⟩
theorem AI.ext (F : AI Z h a ty z f) (E : Ext h h') : AI Z h' a ty z f := by obtain ⟨c, A, r⟩ := F; exact ⟨c, Arr.ext E A, r⟩
theorem AV.other (F : AV Z h b ty z vs) (W : Wr h h' a sl v) (q : b ≠ a) : AV Z h' b ty z vs := by obtain ⟨c, A, r⟩ := F; exact ⟨c, Arr.other W A q, r⟩
theorem AI.other (F : AI Z h b ty z f) (W : Wr h h' a sl v) (q : b ≠ a) : AI Z h' b ty z f := by obtain ⟨c, A, r⟩ := F; exact ⟨c, Arr.other W A q, r⟩
theorem AV.keep (F : AV Z h a ty z vs) (K : Keep h h' ws) (q : a ∉ ws) : AV Z h' a ty z vs := by obtain ⟨c, A, r⟩ := F; exact ⟨c, ⟨K.2.1 _ _ A.1 q, A.2⟩, r⟩
theorem AI.keep (F : AI Z h a ty z f) (K : Keep h h' ws) (q : a ∉ ws) : AI Z h' a ty z f := by obtain ⟨c, A, r⟩ := F; exact ⟨c, ⟨K.2.1 _ _ A.1 q, A.2⟩, r⟩
theorem AV.new (A : Arr Z h a (newA k ty z) ty) (q : ¬ z < 0) : AV Z h a ty z (List.replicate z.toNatClampNeg (defaultValue ty)) := ⟨_, A, by simp [newA], by simp, q⟩
theorem AI.new {d : Int32} (A : Arr Z h a (newA k ty z) ty) (q : ¬ z < 0) (hd : defaultValue ty = .int d) : AI Z h a ty z (fun _ => d) := ⟨_, A, sz_new k ty z, q, fun i hi => by simp [newA, hi, hd]⟩
theorem AV.set {c : Cell} (A : Arr Z h a c ty) (S : c.slots = vs.toArray) (N : vs.length = z.toNatClampNeg) (q : ¬ z < 0) (W : Wr h h' a sl v) : AV Z h' a ty z (vs.set sl v) := by
  refine ⟨_, Arr.same W A, ?_, by simpa using N, q⟩
  simp [Cell.setSlot, S]
theorem AI.set {c : Cell} {x : Int32} (A : Arr Z h a c ty) (S : c.slots.size = z.toNatClampNeg) (q : ¬ z < 0) (G : ∀ i, i < z.toNatClampNeg → c.slots[i]? = some (.int (f i))) (W : Wr h h' a sl (.int x)) : AI Z h' a ty z (fun i => if i = sl then x else f i) := by
  obtain ⟨c', e1, -, -, e4, -, e6, e7⟩ := wr_at W A.1
  have A' := Arr.same W A
  obtain rfl : c' = c.setSlot sl (.int x) := (e7 rfl).1
  refine ⟨_, A', by rw [e4]; exact S, q, fun i hi => ?_⟩
  by_cases hc : i = sl
  · subst hc; simp only [if_pos]; exact (e7 rfl).2.1
  · simp only [if_neg hc]; rw [e6 i hc]; exact G i hi
theorem AI.congr {g : Nat → Int32} (F : AI Z h a ty z f) (q : ∀ i, i < z.toNatClampNeg → f i = g i) : AI Z h a ty z g := by
  obtain ⟨c, A, S, N, G⟩ := F
  exact ⟨c, A, S, N, fun i hi => by rw [← q i hi]; exact G i hi⟩
theorem AV.inb {c : Cell} (S : c.slots = vs.toArray) (N : vs.length = z.toNatClampNeg) (q : ¬ j < 0 ∧ j < z) : ¬ (j < 0 ∨ c.slots.size ≤ j.toNatClampNeg) := inb_of (by rw [S]; simpa using N) q
theorem AV.len {c : Cell} (S : c.slots = vs.toArray) (N : vs.length = z.toNatClampNeg) (q : ¬ z < 0) : c.slots.size.toInt32 = z := len_of (by rw [S]; simpa using N) q
theorem AV.at {c : Cell} (S : c.slots = vs.toArray) (hj : vs[j.toNatClampNeg]? = some v) : c.slots[j.toNatClampNeg]? = some v := by rw [S]; simpa using hj
theorem AI.at {c : Cell} (S : c.slots.size = z.toNatClampNeg) (G : ∀ i, i < z.toNatClampNeg → c.slots[i]? = some (.int (f i))) (q : ¬ (j < 0 ∨ c.slots.size ≤ j.toNatClampNeg)) : c.slots[j.toNatClampNeg]? = some (.int (f j.toNatClampNeg)) := G _ (by rw [← S]; exact Nat.lt_of_not_le fun x => q (Or.inr x))
theorem own_loop {G : Prop} {α : Type} (P : α → Prop) (m : α → Nat) (hs : ∀ a, P a → (∀ b, P b → m b < m a → G) → G) (a : α) (ha : P a) : G := by
  suffices h : ∀ n a, m a = n → P a → G from h _ a rfl ha
  intro n
  induction n using Nat.strongRecOn with
  | ind n ih => intro a hn hp; exact hs a hp fun b hb hlt => ih (m b) (by rw [← hn]; exact hlt) b rfl hb
def AK (h : Heap) (a : Addr) (k : ClassId) : Prop := ∃ c : Cell, h[a]? = some c ∧ c.cls = k
theorem AK.ext (F : AK h a k) (E : Ext h h') : AK h' a k := by obtain ⟨c, h1, h2⟩ := F; exact ⟨c, E.2 _ _ h1, h2⟩
theorem AK.wr (F : AK h b k) (W : Wr h h' a sl v) : AK h' b k := by obtain ⟨c, h1, h2⟩ := F; obtain ⟨c', e1, e2, -⟩ := wr_at W h1; exact ⟨c', e1, e2.trans h2⟩
theorem AK.keep (F : AK h a k) (K : Keep h h' ws) : AK h' a k := by obtain ⟨c, h1, h2⟩ := F; obtain ⟨c', e1, e2, -⟩ := K.2.2 _ _ h1; exact ⟨c', e1, e2.trans h2⟩
theorem AK.cls {c : Cell} (F : AK h a k) (A : Arr Z h a c ty) : c.cls = k := by obtain ⟨c', h1, h2⟩ := F; cases h1.symm.trans A.1; exact h2
theorem AV.arv (F : AV Z h a ty z vs) (d : Value) (hf : ∀ v ∈ vs, fits ty v = true) : ∃ k, Arv Z h a k ty z vs d := by
  obtain ⟨c, A, S, N, q⟩ := F
  refine ⟨_, c, A, rfl, by rw [S]; simpa using N, q, fun i hi => ?_, fun i hi => ?_⟩
  · rw [S] at hi ⊢
    have hi' : i < vs.length := by simpa using hi
    simp [hi']
  · rw [S] at hi
    have hi' : i < vs.length := by simpa using hi
    have e : vs.getD i d = vs[i] := by simp [hi']
    rw [e]; exact hf _ (List.getElem_mem hi')
theorem AV.of_arv {d : Value} (F : Arv Z h a k ty z vs d) (N : vs.length = z.toNatClampNeg) : AV Z h a ty z vs := by
  obtain ⟨c, A, -, S, q, H, -⟩ := F
  refine ⟨c, A, ?_, N, q⟩
  apply Array.ext_getElem?
  intro i
  by_cases hi : i < c.slots.size
  · have hi' : i < vs.length := by rw [N, ← S]; exact hi
    rw [H i hi]; simp [hi']
  · have hi' : ¬ i < vs.length := by rw [N, ← S]; exact hi
    simp [Array.getElem?_eq_none (Nat.le_of_not_lt hi), List.getElem?_eq_none (Nat.le_of_not_lt hi')]
end Arrays


theorem own_fi {args : Array Value} {s : State} {t : Term} {a : Addr} {C n d : String} {k : Int32} (ev : t.eval args s none [] s = some (.ref a)) (h : (Cond.eq (.field t C n d) (.int k)).value args s none s [] = some true) : Fld s s.heap a C n d (.int k) := by
  obtain ⟨x, y, e1, e2, k1, k2⟩ := cmp_v (Or.inl h)
  obtain rfl : y = .int k := Option.some.inj (e2.symm.trans (Term.int_eval k))
  obtain ⟨z, rfl⟩ := k2
  have q := gotT (Cond.eq_ints e1 e2) h
  subst q
  exact Fld.start ((fld_at ev).symm.trans e1)
theorem own_fr {args : Array Value} {s : State} {t u : Term} {a b : Addr} {C n d : String} (ev : t.eval args s none [] s = some (.ref a)) (eu : u.eval args s none [] s = some (.ref b)) (h : (Cond.eq (.field t C n d) u).value args s none s [] = some true) : Fld s s.heap a C n d (.ref b) := by
  obtain ⟨x, y, e1, e2, k1, k2⟩ := cmp_v (Or.inl h)
  obtain rfl : y = .ref b := Option.some.inj (e2.symm.trans eu)
  have q := gotT (eq_R e1 e2 k2.2 rfl) h
  subst q
  exact Fld.start ((fld_at ev).symm.trans e1)
theorem own_fa {args : Array Value} {s : State} {t : Term} {a b : Addr} {C n d : String} (ev : t.eval args s none [] s = some (.ref a)) (eu : (Term.field t C n d).eval args s none [] s = some (.ref b)) : Fld s s.heap a C n d (.ref b) := Fld.start ((fld_at ev).symm.trans eu)


theorem own_tr {a b c : Int32} (h1 : a < b) (h2 : b < c) : a < c := by
  rw [Int32.lt_iff_toInt_lt] at *
  omega
theorem own_nn31 (x : Int32) : ¬ (x &&& 31) < 0 := by
  rw [Int32.lt_iff_toInt_lt, Jvm.Kit.i32_mask x 31 (k := 5) (by decide) (by decide), show (0 : Int32).toInt = 0 from rfl]; omega
theorem own_le31 (x : Int32) : (x &&& 31).toNatClampNeg ≤ 31 := by
  have e : (x &&& 31).toInt = x.toInt % 2 ^ 5 := Jvm.Kit.i32_mask x 31 (k := 5) (by decide) (by decide)
  show (x &&& 31).toInt.toNat ≤ 31
  omega

theorem d1_0 : decode prog_43_method_9_code 0 = .ok (.aload_n 1, 1) := by decide +kernel
theorem d1_1 : decode prog_43_method_9_code 1 = .ok (.arraylength, 1) := by decide +kernel
theorem d1_2 : decode prog_43_method_9_code 2 = .ok (.aload_n 0, 1) := by decide +kernel
theorem d1_3 : decode prog_43_method_9_code 3 = .ok (.getfield 39, 3) := by decide +kernel
theorem d1_6 : decode prog_43_method_9_code 6 = .ok (.if_icmp .gt 5, 3) := by decide +kernel
theorem d1_11 : decode prog_43_method_9_code 11 = .ok (.aload_n 0, 1) := by decide +kernel
theorem d1_12 : decode prog_43_method_9_code 12 = .ok (.getfield 42, 3) := by decide +kernel
theorem d1_15 : decode prog_43_method_9_code 15 = .ok (.ifCond .ge 15, 3) := by decide +kernel
theorem d1_18 : decode prog_43_method_9_code 18 = .ok (.aload_n 1, 1) := by decide +kernel
theorem d1_19 : decode prog_43_method_9_code 19 = .ok (.aload_n 0, 1) := by decide +kernel
theorem d1_20 : decode prog_43_method_9_code 20 = .ok (.getfield 39, 3) := by decide +kernel
theorem d1_23 : decode prog_43_method_9_code 23 = .ok (.baload, 1) := by decide +kernel
theorem d1_24 : decode prog_43_method_9_code 24 = .ok (.iconst 4, 1) := by decide +kernel
theorem d1_25 : decode prog_43_method_9_code 25 = .ok (.ishr, 1) := by decide +kernel
theorem d1_26 : decode prog_43_method_9_code 26 = .ok (.bipush 15, 2) := by decide +kernel
theorem d1_28 : decode prog_43_method_9_code 28 = .ok (.iand, 1) := by decide +kernel
theorem d1_29 : decode prog_43_method_9_code 29 = .ok (.ireturn, 1) := by decide +kernel
theorem d1_30 : decode prog_43_method_9_code 30 = .ok (.aload_n 1, 1) := by decide +kernel
theorem d1_31 : decode prog_43_method_9_code 31 = .ok (.aload_n 0, 1) := by decide +kernel
theorem d1_32 : decode prog_43_method_9_code 32 = .ok (.getfield 42, 3) := by decide +kernel
theorem d1_35 : decode prog_43_method_9_code 35 = .ok (.baload, 1) := by decide +kernel
theorem d1_36 : decode prog_43_method_9_code 36 = .ok (.sipush 255, 3) := by decide +kernel
theorem d1_39 : decode prog_43_method_9_code 39 = .ok (.iand, 1) := by decide +kernel
theorem d1_40 : decode prog_43_method_9_code 40 = .ok (.bipush 8, 2) := by decide +kernel
theorem d1_42 : decode prog_43_method_9_code 42 = .ok (.ishl, 1) := by decide +kernel
theorem d1_43 : decode prog_43_method_9_code 43 = .ok (.aload_n 1, 1) := by decide +kernel
theorem d1_44 : decode prog_43_method_9_code 44 = .ok (.aload_n 0, 1) := by decide +kernel
theorem d1_45 : decode prog_43_method_9_code 45 = .ok (.getfield 42, 3) := by decide +kernel
theorem d1_48 : decode prog_43_method_9_code 48 = .ok (.iconst 1, 1) := by decide +kernel
theorem d1_49 : decode prog_43_method_9_code 49 = .ok (.iadd, 1) := by decide +kernel
theorem d1_50 : decode prog_43_method_9_code 50 = .ok (.baload, 1) := by decide +kernel
theorem d1_51 : decode prog_43_method_9_code 51 = .ok (.sipush 255, 3) := by decide +kernel
theorem d1_54 : decode prog_43_method_9_code 54 = .ok (.iand, 1) := by decide +kernel
theorem d1_55 : decode prog_43_method_9_code 55 = .ok (.ior, 1) := by decide +kernel
theorem d1_56 : decode prog_43_method_9_code 56 = .ok (.istore_n 2, 1) := by decide +kernel
theorem d1_57 : decode prog_43_method_9_code 57 = .ok (.iload_n 2, 1) := by decide +kernel
theorem d1_58 : decode prog_43_method_9_code 58 = .ok (.sipush 2048, 3) := by decide +kernel
theorem d1_61 : decode prog_43_method_9_code 61 = .ok (.if_icmp .ne 5, 3) := by decide +kernel
theorem d1_64 : decode prog_43_method_9_code 64 = .ok (.iconst 4, 1) := by decide +kernel
theorem d1_65 : decode prog_43_method_9_code 65 = .ok (.ireturn, 1) := by decide +kernel
theorem d1_66 : decode prog_43_method_9_code 66 = .ok (.iload_n 2, 1) := by decide +kernel
theorem d1_67 : decode prog_43_method_9_code 67 = .ok (.ldc 87, 2) := by decide +kernel
theorem d1_69 : decode prog_43_method_9_code 69 = .ok (.if_icmp .ne 8, 3) := by decide +kernel
theorem d1_72 : decode prog_43_method_9_code 72 = .ok (.bipush 6, 2) := by decide +kernel
theorem d1_74 : decode prog_43_method_9_code 74 = .ok (.goto 4, 3) := by decide +kernel
theorem d1_78 : decode prog_43_method_9_code 78 = .ok (.ireturn, 1) := by decide +kernel
theorem d1_77 : decode prog_43_method_9_code 77 = .ok (.iconst 0, 1) := by decide +kernel
theorem d1_9 : decode prog_43_method_9_code 9 = .ok (.iconst 0, 1) := by decide +kernel
theorem d1_10 : decode prog_43_method_9_code 10 = .ok (.ireturn, 1) := by decide +kernel
theorem pn_0 : plainName "com/example/waymark/waymark/cli/LinkType" = true := by first | (simp [plainName, overriddenIn]; done) | decide +kernel
def f1 (w1 : Int32) (w2 : Int32) (z : Int32) (f : Nat → Int32) : Int32 := if w1 < z then if w2 < (0 : Int32) then (((f (w1).toNatClampNeg) >>> ((4 : Int32) &&& 31)) &&& (15 : Int32)) else if ((((f (w2).toNatClampNeg) &&& (255 : Int32)) <<< ((8 : Int32) &&& 31)) ||| ((f ((w2 + (1 : Int32))).toNatClampNeg) &&& (255 : Int32))) = (2048 : Int32) then (4 : Int32) else if ((((f (w2).toNatClampNeg) &&& (255 : Int32)) <<< ((8 : Int32) &&& 31)) ||| ((f ((w2 + (1 : Int32))).toNatClampNeg) &&& (255 : Int32))) = (34525 : Int32) then (6 : Int32) else (0 : Int32) else (0 : Int32)
theorem ef_1 (m : MethodId) (x0 : Addr) (x1 : Addr) : entryFrame m #[(.ref x0), (.ref x1)] 3 = mkF m 0 #[.val (.ref x0), .val (.ref x1), .unset] [] := by first | (simp [entryFrame, mkF, argsToLocals, Value.category]; done) | rfl
def Q1 (Z : State) (a1 : Addr) (a2 : Addr) (w1 : Int32) (w2 : Int32) (z : Int32) (f : Nat → Int32) (h0 : Heap) (n0 : Nat) (v : Option Value) (h : Heap) (L : List Loc) : Prop := v = some (.int (f1 w1 w2 z f)) ∧ Fr n0 L ∧ h = h0
set_option maxRecDepth 65536 in
set_option maxHeartbeats 40000000 in
theorem rm1 (l : Launch) (Z : State) (a0 : Array Value) (hw : ∀ d ∈ tables_1, d.before a0 Z = true) (ws : List Jvm.Cond) (a1 : Addr) (a2 : Addr) (w1 : Int32) (w2 : Int32) (z : Int32) (f : Nat → Int32) (h0 : Heap) (n0 : Nat) (Z0 : n0 ≤ h0.size) (F_a1_headerLength : Fld Z h0 a1 "com/example/waymark/waymark/cli/LinkType" "headerLength" "I" (.int w1)) (F_a1_protocolOffset : Fld Z h0 a1 "com/example/waymark/waymark/cli/LinkType" "protocolOffset" "I" (.int w2)) (V_a2 : AI Z h0 a2 .byte z f) (hw1 : ¬ w1 < 0) (hw2 : ¬ w2 < 0 → w2 < w1 ∧ w2 + (1 : Int32) < w1 ∧ ¬ w2 + (1 : Int32) < 0) :
    MetFree l (⟨"com/example/waymark/waymark/cli/LinkType", "ipVersion", "([B)I"⟩ : MethodName) (head1 (Jvm.Cond.code (⟨"com/example/waymark/waymark/cli/LinkType", "ipVersion", "([B)I"⟩ : MethodName) prog_43_method_9_code 3 (some .int) :: ws) ({ frames := 0, cells := 0, slots := 0, locals := 0 } : Room)) (fun a U => a = #[(.ref a1), (.ref a2)] ∧ Z.Warmed39 U.vm ∧ U.heap = h0) (fun _ _ _ _ _ => True) (fun _ U o U' => ∃ v L, o = .returned v ∧ Q1 Z a1 a2 w1 w2 z f h0 n0 v U'.heap L ∧ FrameEnd U o U' L ({ frames := 0, cells := 0, slots := 0, locals := 0 } : Room).cells ({ frames := 0, cells := 0, slots := 0, locals := 0 } : Room).slots) := by
  refine MetFree.of_bodySF (plainFor_of_name pn_0) hisR ?_
  intro p e s m args below meth c s₁ Bd hml0 hP hK
  obtain ⟨rfl, hZ, hh⟩ := hP
  have hx := Bd.exec
  have hby := Bd.bytes
  have hml : c.maxLocals = 3 := hml0
  have hown : s.vm.findClass "com/example/waymark/waymark/cli/LinkType" = some m.cls := findClass_of_methodNamed Bd.named
  have hnm := (name_of_methodNamed Bd.named Bd.method).1
  have X0 : Stand p l e ({ frames := 0, cells := 0, slots := 0, locals := 0 } : Room) s m #[(.ref a1), (.ref a2)] below meth c s₁ [] 0 0 := Stand.of_body Bd
  have e0 : s₁.heap = h0 := by rw [← hh, Bd.state]; rfl
  have N0 := Fr.nil n0
  have pre0 : ∀ t, Steps p.tables e below (s₁.setTop (mkF m 0 #[.val (.ref a1), .val (.ref a2), .unset] [])) t → Steps p.tables e below (s₁.setTop (entryFrame m #[(.ref a1), (.ref a2)] 3)) t := fun t k => castTop (ef_1 m a1 a2) k
  obtain ⟨cl1, A1, S1, M1, -⟩ := id V_a2
  obtain ⟨T2, X2, e2, st2⟩ := getF X0 hx hZ hown (host := "") (Or.inl (hw _ (List.mem_of_getElem? (i := 9) rfl))) Via.refl e0 F_a1_headerLength (g := (mkF m 3 #[.val (.ref a1), .val (.ref a2), .unset] [(.ref a1), (.int z)])) rfl rfl (hb hby d1_3)
  have pre3 : ∀ t, Steps p.tables e below (T2.setTop (mkF m 6 #[.val (.ref a1), .val (.ref a2), .unset] [(.int w1), (.int z)])) t → Steps p.tables e below (s₁.setTop (entryFrame m #[(.ref a1), (.ref a2)] 3)) t := fun t k => pre0 t (by
    show Steps p.tables e below (s₁.setTop (mkF m 0 #[.val (.ref a1), .val (.ref a2), .unset] [])) _
    refine XS.aloadN X0.here hx rfl (hb hby d1_0) rfl rfl ?_
    show Steps p.tables e below (s₁.setTop (mkF m 1 #[.val (.ref a1), .val (.ref a2), .unset] [(.ref a2)])) _
    refine X0.arraylength hx (by rw [e0]; exact A1.1) (State.isArrayOf_alike hZ.alike A1.2.1) (g := (mkF m 1 #[.val (.ref a1), .val (.ref a2), .unset] [(.ref a2)])) rfl rfl (hb hby d1_1) _ ?_
    rw [len_of S1 M1]
    show Steps p.tables e below (s₁.setTop (mkF m 2 #[.val (.ref a1), .val (.ref a2), .unset] [(.int z)])) _
    refine XS.aloadN X0.here hx rfl (hb hby d1_2) rfl rfl ?_
    show Steps p.tables e below (s₁.setTop (mkF m 3 #[.val (.ref a1), .val (.ref a2), .unset] [(.ref a1), (.int z)])) _
    refine st2 _ ?_
    exact k)
  by_cases hc4 : w1 < z
  · obtain ⟨T5, X5, e5, st5⟩ := getF X2 hx hZ hown (host := "") (Or.inl (hw _ (List.mem_of_getElem? (i := 13) rfl))) Via.refl e2 F_a1_protocolOffset (g := (mkF m 12 #[.val (.ref a1), .val (.ref a2), .unset] [(.ref a1)])) rfl rfl (hb hby d1_12)
    have pre6 : ∀ t, Steps p.tables e below (T5.setTop (mkF m 15 #[.val (.ref a1), .val (.ref a2), .unset] [(.int w2)])) t → Steps p.tables e below (s₁.setTop (entryFrame m #[(.ref a1), (.ref a2)] 3)) t := fun t k => pre3 t (by
      show Steps p.tables e below (T2.setTop (mkF m 6 #[.val (.ref a1), .val (.ref a2), .unset] [(.int w1), (.int z)])) _
      refine XS.icmpYes X2.here hx rfl (pc0 := 6) (pc' := 11) rfl (hb hby d1_6) rfl (tlt hc4).2.2.1 (by decide) (by decide) ?_
      show Steps p.tables e below (T2.setTop (mkF m 11 #[.val (.ref a1), .val (.ref a2), .unset] [])) _
      refine XS.aloadN X2.here hx rfl (hb hby d1_11) rfl rfl ?_
      show Steps p.tables e below (T2.setTop (mkF m 12 #[.val (.ref a1), .val (.ref a2), .unset] [(.ref a1)])) _
      refine st5 _ ?_
      exact k)
    by_cases hc7 : w2 < (0 : Int32)
    · obtain ⟨T8, X8, e8, st8⟩ := getF X5 hx hZ hown (host := "") (Or.inl (hw _ (List.mem_of_getElem? (i := 9) rfl))) Via.refl e5 F_a1_headerLength (g := (mkF m 20 #[.val (.ref a1), .val (.ref a2), .unset] [(.ref a1), (.ref a2)])) rfl rfl (hb hby d1_20)
      obtain ⟨cl9, A9, S9, M9, G9⟩ := id V_a2
      have hin9 : ¬ (w1 < 0 ∨ cl9.slots.size ≤ (w1).toNatClampNeg) := inb_of S9 (⟨hw1, hc4⟩)
      have hat9 : cl9.slots[(w1).toNatClampNeg]? = some (.int (f (w1).toNatClampNeg)) := AI.at S9 G9 hin9
      obtain ⟨fs, hr, hrun, hended, hW, hsame⟩ := X8.leave (v := some (.int (((f (w1).toNatClampNeg) >>> ((4 : Int32) &&& 31)) &&& (15 : Int32)))) (fun h => by rw [Bd.returns] at h; cases h)
      refine ⟨_, _, pre6 _ ?_, hrun, hended, _, _, rfl, ?_, ⟨_, rfl⟩, hW, hsame.mono (by decide) (by decide)⟩
      · show Steps p.tables e below (T5.setTop (mkF m 15 #[.val (.ref a1), .val (.ref a2), .unset] [(.int w2)])) _
        refine XS.ifNo X5.here hx rfl (hb hby d1_15) rfl ((if0 _ _).trans (tlt hc7).2.1) ?_
        show Steps p.tables e below (T5.setTop (mkF m 18 #[.val (.ref a1), .val (.ref a2), .unset] [])) _
        refine XS.aloadN X5.here hx rfl (hb hby d1_18) rfl rfl ?_
        show Steps p.tables e below (T5.setTop (mkF m 19 #[.val (.ref a1), .val (.ref a2), .unset] [(.ref a2)])) _
        refine XS.aloadN X5.here hx rfl (hb hby d1_19) rfl rfl ?_
        show Steps p.tables e below (T5.setTop (mkF m 20 #[.val (.ref a1), .val (.ref a2), .unset] [(.ref a1), (.ref a2)])) _
        refine st8 _ ?_
        show Steps p.tables e below (T8.setTop (mkF m 23 #[.val (.ref a1), .val (.ref a2), .unset] [(.int w1), (.ref a2)])) _
        refine X8.baloadBytes hx (j := w1) (v := (.int (f (w1).toNatClampNeg))) (by rw [e8]; exact A9.1) (State.isArrayOf_alike hZ.alike A9.2.1) A9.2.2 hin9 hat9 (g := (mkF m 23 #[.val (.ref a1), .val (.ref a2), .unset] [(.int w1), (.ref a2)])) rfl rfl (hb hby d1_23) _ ?_
        show Steps p.tables e below (T8.setTop (mkF m 24 #[.val (.ref a1), .val (.ref a2), .unset] [(.int (f (w1).toNatClampNeg))])) _
        refine XS.iconst X8.here hx rfl (hb hby d1_24) ?_
        show Steps p.tables e below (T8.setTop (mkF m 25 #[.val (.ref a1), .val (.ref a2), .unset] [(.int (4 : Int32)), (.int (f (w1).toNatClampNeg))])) _
        refine XS.ishr X8.here hx rfl (hb hby d1_25) rfl ?_
        show Steps p.tables e below (T8.setTop (mkF m 26 #[.val (.ref a1), .val (.ref a2), .unset] [(.int ((f (w1).toNatClampNeg) >>> ((4 : Int32) &&& 31)))])) _
        refine XS.bipush X8.here hx rfl (hb hby d1_26) ?_
        show Steps p.tables e below (T8.setTop (mkF m 28 #[.val (.ref a1), .val (.ref a2), .unset] [(.int (15 : Int32)), (.int ((f (w1).toNatClampNeg) >>> ((4 : Int32) &&& 31)))])) _
        refine XS.iand X8.here hx rfl (hb hby d1_28) rfl ?_
        show Steps p.tables e below (T8.setTop (mkF m 29 #[.val (.ref a1), .val (.ref a2), .unset] [(.int (((f (w1).toNatClampNeg) >>> ((4 : Int32) &&& 31)) &&& (15 : Int32)))])) _
        exact retI X8 hx Bd.returns (hb hby d1_29) hr
      · show Q1 Z a1 a2 w1 w2 z f h0 n0 _ T8.heap _
        rw [e8]
        exact ⟨by rw [show (f1 w1 w2 z f) = (((f (w1).toNatClampNeg) >>> ((4 : Int32) &&& 31)) &&& (15 : Int32)) from by first | (rw [f1, if_pos hc4, if_pos hc7]; done) | (simp only [f1, if_pos hc4, if_pos hc7]; done) | rfl], N0, rfl⟩
    · obtain ⟨T11, X11, e11, st11⟩ := getF X5 hx hZ hown (host := "") (Or.inl (hw _ (List.mem_of_getElem? (i := 13) rfl))) Via.refl e5 F_a1_protocolOffset (g := (mkF m 32 #[.val (.ref a1), .val (.ref a2), .unset] [(.ref a1), (.ref a2)])) rfl rfl (hb hby d1_32)
      obtain ⟨cl12, A12, S12, M12, G12⟩ := id V_a2
      have hin12 : ¬ (w2 < 0 ∨ cl12.slots.size ≤ (w2).toNatClampNeg) := inb_of S12 (⟨hc7, own_tr (hw2 hc7).1 hc4⟩)
      have hat12 : cl12.slots[(w2).toNatClampNeg]? = some (.int (f (w2).toNatClampNeg)) := AI.at S12 G12 hin12
      obtain ⟨T13, X13, e13, st13⟩ := getF X11 hx hZ hown (host := "") (Or.inl (hw _ (List.mem_of_getElem? (i := 13) rfl))) Via.refl e11 F_a1_protocolOffset (g := (mkF m 45 #[.val (.ref a1), .val (.ref a2), .unset] [(.ref a1), (.ref a2), (.int (((f (w2).toNatClampNeg) &&& (255 : Int32)) <<< ((8 : Int32) &&& 31)))])) rfl rfl (hb hby d1_45)
      obtain ⟨cl14, A14, S14, M14, G14⟩ := id V_a2
      have hin14 : ¬ ((w2 + (1 : Int32)) < 0 ∨ cl14.slots.size ≤ ((w2 + (1 : Int32))).toNatClampNeg) := inb_of S14 (⟨(hw2 hc7).2.2, own_tr (hw2 hc7).2.1 hc4⟩)
      have hat14 : cl14.slots[((w2 + (1 : Int32))).toNatClampNeg]? = some (.int (f ((w2 + (1 : Int32))).toNatClampNeg)) := AI.at S14 G14 hin14
      have pre15 : ∀ t, Steps p.tables e below (T13.setTop (mkF m 61 #[.val (.ref a1), .val (.ref a2), .val (.int ((((f (w2).toNatClampNeg) &&& (255 : Int32)) <<< ((8 : Int32) &&& 31)) ||| ((f ((w2 + (1 : Int32))).toNatClampNeg) &&& (255 : Int32))))] [(.int (2048 : Int32)), (.int ((((f (w2).toNatClampNeg) &&& (255 : Int32)) <<< ((8 : Int32) &&& 31)) ||| ((f ((w2 + (1 : Int32))).toNatClampNeg) &&& (255 : Int32))))])) t → Steps p.tables e below (s₁.setTop (entryFrame m #[(.ref a1), (.ref a2)] 3)) t := fun t k => pre6 t (by
        show Steps p.tables e below (T5.setTop (mkF m 15 #[.val (.ref a1), .val (.ref a2), .unset] [(.int w2)])) _
        refine XS.ifYes X5.here hx rfl (pc0 := 15) (pc' := 30) rfl (hb hby d1_15) rfl ((if0 _ _).trans (flt hc7).2.1) (by decide) (by decide) ?_
        show Steps p.tables e below (T5.setTop (mkF m 30 #[.val (.ref a1), .val (.ref a2), .unset] [])) _
        refine XS.aloadN X5.here hx rfl (hb hby d1_30) rfl rfl ?_
        show Steps p.tables e below (T5.setTop (mkF m 31 #[.val (.ref a1), .val (.ref a2), .unset] [(.ref a2)])) _
        refine XS.aloadN X5.here hx rfl (hb hby d1_31) rfl rfl ?_
        show Steps p.tables e below (T5.setTop (mkF m 32 #[.val (.ref a1), .val (.ref a2), .unset] [(.ref a1), (.ref a2)])) _
        refine st11 _ ?_
        show Steps p.tables e below (T11.setTop (mkF m 35 #[.val (.ref a1), .val (.ref a2), .unset] [(.int w2), (.ref a2)])) _
        refine X11.baloadBytes hx (j := w2) (v := (.int (f (w2).toNatClampNeg))) (by rw [e11]; exact A12.1) (State.isArrayOf_alike hZ.alike A12.2.1) A12.2.2 hin12 hat12 (g := (mkF m 35 #[.val (.ref a1), .val (.ref a2), .unset] [(.int w2), (.ref a2)])) rfl rfl (hb hby d1_35) _ ?_
        show Steps p.tables e below (T11.setTop (mkF m 36 #[.val (.ref a1), .val (.ref a2), .unset] [(.int (f (w2).toNatClampNeg))])) _
        refine XS.sipush X11.here hx rfl (hb hby d1_36) ?_
        show Steps p.tables e below (T11.setTop (mkF m 39 #[.val (.ref a1), .val (.ref a2), .unset] [(.int (255 : Int32)), (.int (f (w2).toNatClampNeg))])) _
        refine XS.iand X11.here hx rfl (hb hby d1_39) rfl ?_
        show Steps p.tables e below (T11.setTop (mkF m 40 #[.val (.ref a1), .val (.ref a2), .unset] [(.int ((f (w2).toNatClampNeg) &&& (255 : Int32)))])) _
        refine XS.bipush X11.here hx rfl (hb hby d1_40) ?_
        show Steps p.tables e below (T11.setTop (mkF m 42 #[.val (.ref a1), .val (.ref a2), .unset] [(.int (8 : Int32)), (.int ((f (w2).toNatClampNeg) &&& (255 : Int32)))])) _
        refine XS.ishl X11.here hx rfl (hb hby d1_42) rfl ?_
        show Steps p.tables e below (T11.setTop (mkF m 43 #[.val (.ref a1), .val (.ref a2), .unset] [(.int (((f (w2).toNatClampNeg) &&& (255 : Int32)) <<< ((8 : Int32) &&& 31)))])) _
        refine XS.aloadN X11.here hx rfl (hb hby d1_43) rfl rfl ?_
        show Steps p.tables e below (T11.setTop (mkF m 44 #[.val (.ref a1), .val (.ref a2), .unset] [(.ref a2), (.int (((f (w2).toNatClampNeg) &&& (255 : Int32)) <<< ((8 : Int32) &&& 31)))])) _
        refine XS.aloadN X11.here hx rfl (hb hby d1_44) rfl rfl ?_
        show Steps p.tables e below (T11.setTop (mkF m 45 #[.val (.ref a1), .val (.ref a2), .unset] [(.ref a1), (.ref a2), (.int (((f (w2).toNatClampNeg) &&& (255 : Int32)) <<< ((8 : Int32) &&& 31)))])) _
        refine st13 _ ?_
        show Steps p.tables e below (T13.setTop (mkF m 48 #[.val (.ref a1), .val (.ref a2), .unset] [(.int w2), (.ref a2), (.int (((f (w2).toNatClampNeg) &&& (255 : Int32)) <<< ((8 : Int32) &&& 31)))])) _
        refine XS.iconst X13.here hx rfl (hb hby d1_48) ?_
        show Steps p.tables e below (T13.setTop (mkF m 49 #[.val (.ref a1), .val (.ref a2), .unset] [(.int (1 : Int32)), (.int w2), (.ref a2), (.int (((f (w2).toNatClampNeg) &&& (255 : Int32)) <<< ((8 : Int32) &&& 31)))])) _
        refine XS.iadd X13.here hx rfl (hb hby d1_49) rfl ?_
        show Steps p.tables e below (T13.setTop (mkF m 50 #[.val (.ref a1), .val (.ref a2), .unset] [(.int (w2 + (1 : Int32))), (.ref a2), (.int (((f (w2).toNatClampNeg) &&& (255 : Int32)) <<< ((8 : Int32) &&& 31)))])) _
        refine X13.baloadBytes hx (j := (w2 + (1 : Int32))) (v := (.int (f ((w2 + (1 : Int32))).toNatClampNeg))) (by rw [e13]; exact A14.1) (State.isArrayOf_alike hZ.alike A14.2.1) A14.2.2 hin14 hat14 (g := (mkF m 50 #[.val (.ref a1), .val (.ref a2), .unset] [(.int (w2 + (1 : Int32))), (.ref a2), (.int (((f (w2).toNatClampNeg) &&& (255 : Int32)) <<< ((8 : Int32) &&& 31)))])) rfl rfl (hb hby d1_50) _ ?_
        show Steps p.tables e below (T13.setTop (mkF m 51 #[.val (.ref a1), .val (.ref a2), .unset] [(.int (f ((w2 + (1 : Int32))).toNatClampNeg)), (.int (((f (w2).toNatClampNeg) &&& (255 : Int32)) <<< ((8 : Int32) &&& 31)))])) _
        refine XS.sipush X13.here hx rfl (hb hby d1_51) ?_
        show Steps p.tables e below (T13.setTop (mkF m 54 #[.val (.ref a1), .val (.ref a2), .unset] [(.int (255 : Int32)), (.int (f ((w2 + (1 : Int32))).toNatClampNeg)), (.int (((f (w2).toNatClampNeg) &&& (255 : Int32)) <<< ((8 : Int32) &&& 31)))])) _
        refine XS.iand X13.here hx rfl (hb hby d1_54) rfl ?_
        show Steps p.tables e below (T13.setTop (mkF m 55 #[.val (.ref a1), .val (.ref a2), .unset] [(.int ((f ((w2 + (1 : Int32))).toNatClampNeg) &&& (255 : Int32))), (.int (((f (w2).toNatClampNeg) &&& (255 : Int32)) <<< ((8 : Int32) &&& 31)))])) _
        refine XS.ior X13.here hx rfl (hb hby d1_55) rfl ?_
        show Steps p.tables e below (T13.setTop (mkF m 56 #[.val (.ref a1), .val (.ref a2), .unset] [(.int ((((f (w2).toNatClampNeg) &&& (255 : Int32)) <<< ((8 : Int32) &&& 31)) ||| ((f ((w2 + (1 : Int32))).toNatClampNeg) &&& (255 : Int32))))])) _
        refine XS.istoreN X13.here hx rfl (hb hby d1_56) rfl (l' := #[.val (.ref a1), .val (.ref a2), .val (.int ((((f (w2).toNatClampNeg) &&& (255 : Int32)) <<< ((8 : Int32) &&& 31)) ||| ((f ((w2 + (1 : Int32))).toNatClampNeg) &&& (255 : Int32))))]) rfl ?_
        show Steps p.tables e below (T13.setTop (mkF m 57 #[.val (.ref a1), .val (.ref a2), .val (.int ((((f (w2).toNatClampNeg) &&& (255 : Int32)) <<< ((8 : Int32) &&& 31)) ||| ((f ((w2 + (1 : Int32))).toNatClampNeg) &&& (255 : Int32))))] [])) _
        refine XS.iloadN X13.here hx rfl (hb hby d1_57) rfl ?_
        show Steps p.tables e below (T13.setTop (mkF m 58 #[.val (.ref a1), .val (.ref a2), .val (.int ((((f (w2).toNatClampNeg) &&& (255 : Int32)) <<< ((8 : Int32) &&& 31)) ||| ((f ((w2 + (1 : Int32))).toNatClampNeg) &&& (255 : Int32))))] [(.int ((((f (w2).toNatClampNeg) &&& (255 : Int32)) <<< ((8 : Int32) &&& 31)) ||| ((f ((w2 + (1 : Int32))).toNatClampNeg) &&& (255 : Int32))))])) _
        refine XS.sipush X13.here hx rfl (hb hby d1_58) ?_
        exact k)
      by_cases hc16 : ((((f (w2).toNatClampNeg) &&& (255 : Int32)) <<< ((8 : Int32) &&& 31)) ||| ((f ((w2 + (1 : Int32))).toNatClampNeg) &&& (255 : Int32))) = (2048 : Int32)
      · obtain ⟨fs, hr, hrun, hended, hW, hsame⟩ := X13.leave (v := some (.int (4 : Int32))) (fun h => by rw [Bd.returns] at h; cases h)
        refine ⟨_, _, pre15 _ ?_, hrun, hended, _, _, rfl, ?_, ⟨_, rfl⟩, hW, hsame.mono (by decide) (by decide)⟩
        · show Steps p.tables e below (T13.setTop (mkF m 61 #[.val (.ref a1), .val (.ref a2), .val (.int ((((f (w2).toNatClampNeg) &&& (255 : Int32)) <<< ((8 : Int32) &&& 31)) ||| ((f ((w2 + (1 : Int32))).toNatClampNeg) &&& (255 : Int32))))] [(.int (2048 : Int32)), (.int ((((f (w2).toNatClampNeg) &&& (255 : Int32)) <<< ((8 : Int32) &&& 31)) ||| ((f ((w2 + (1 : Int32))).toNatClampNeg) &&& (255 : Int32))))])) _
          refine XS.icmpNo X13.here hx rfl (hb hby d1_61) rfl (teq hc16).2 ?_
          show Steps p.tables e below (T13.setTop (mkF m 64 #[.val (.ref a1), .val (.ref a2), .val (.int ((((f (w2).toNatClampNeg) &&& (255 : Int32)) <<< ((8 : Int32) &&& 31)) ||| ((f ((w2 + (1 : Int32))).toNatClampNeg) &&& (255 : Int32))))] [])) _
          refine XS.iconst X13.here hx rfl (hb hby d1_64) ?_
          show Steps p.tables e below (T13.setTop (mkF m 65 #[.val (.ref a1), .val (.ref a2), .val (.int ((((f (w2).toNatClampNeg) &&& (255 : Int32)) <<< ((8 : Int32) &&& 31)) ||| ((f ((w2 + (1 : Int32))).toNatClampNeg) &&& (255 : Int32))))] [(.int (4 : Int32))])) _
          exact retI X13 hx Bd.returns (hb hby d1_65) hr
        · show Q1 Z a1 a2 w1 w2 z f h0 n0 _ T13.heap _
          rw [e13]
          exact ⟨by rw [show (f1 w1 w2 z f) = (4 : Int32) from by first | (rw [f1, if_pos hc4, if_neg hc7, if_pos hc16]; done) | (simp only [f1, if_pos hc4, if_neg hc7, if_pos hc16]; done) | rfl], N0, rfl⟩
      · have pre18 : ∀ t, Steps p.tables e below (T13.setTop (mkF m 69 #[.val (.ref a1), .val (.ref a2), .val (.int ((((f (w2).toNatClampNeg) &&& (255 : Int32)) <<< ((8 : Int32) &&& 31)) ||| ((f ((w2 + (1 : Int32))).toNatClampNeg) &&& (255 : Int32))))] [(.int (34525 : Int32)), (.int ((((f (w2).toNatClampNeg) &&& (255 : Int32)) <<< ((8 : Int32) &&& 31)) ||| ((f ((w2 + (1 : Int32))).toNatClampNeg) &&& (255 : Int32))))])) t → Steps p.tables e below (s₁.setTop (entryFrame m #[(.ref a1), (.ref a2)] 3)) t := fun t k => pre15 t (by
          show Steps p.tables e below (T13.setTop (mkF m 61 #[.val (.ref a1), .val (.ref a2), .val (.int ((((f (w2).toNatClampNeg) &&& (255 : Int32)) <<< ((8 : Int32) &&& 31)) ||| ((f ((w2 + (1 : Int32))).toNatClampNeg) &&& (255 : Int32))))] [(.int (2048 : Int32)), (.int ((((f (w2).toNatClampNeg) &&& (255 : Int32)) <<< ((8 : Int32) &&& 31)) ||| ((f ((w2 + (1 : Int32))).toNatClampNeg) &&& (255 : Int32))))])) _
          refine XS.icmpYes X13.here hx rfl (pc0 := 61) (pc' := 66) rfl (hb hby d1_61) rfl (feq hc16).2 (by decide) (by decide) ?_
          show Steps p.tables e below (T13.setTop (mkF m 66 #[.val (.ref a1), .val (.ref a2), .val (.int ((((f (w2).toNatClampNeg) &&& (255 : Int32)) <<< ((8 : Int32) &&& 31)) ||| ((f ((w2 + (1 : Int32))).toNatClampNeg) &&& (255 : Int32))))] [])) _
          refine XS.iloadN X13.here hx rfl (hb hby d1_66) rfl ?_
          show Steps p.tables e below (T13.setTop (mkF m 67 #[.val (.ref a1), .val (.ref a2), .val (.int ((((f (w2).toNatClampNeg) &&& (255 : Int32)) <<< ((8 : Int32) &&& 31)) ||| ((f ((w2 + (1 : Int32))).toNatClampNeg) &&& (255 : Int32))))] [(.int ((((f (w2).toNatClampNeg) &&& (255 : Int32)) <<< ((8 : Int32) &&& 31)) ||| ((f ((w2 + (1 : Int32))).toNatClampNeg) &&& (255 : Int32))))])) _
          refine X13.ldcInt hx hown (mvT hZ (hw _ (List.mem_of_getElem? (i := 15) rfl))) (g := (mkF m 67 #[.val (.ref a1), .val (.ref a2), .val (.int ((((f (w2).toNatClampNeg) &&& (255 : Int32)) <<< ((8 : Int32) &&& 31)) ||| ((f ((w2 + (1 : Int32))).toNatClampNeg) &&& (255 : Int32))))] [(.int ((((f (w2).toNatClampNeg) &&& (255 : Int32)) <<< ((8 : Int32) &&& 31)) ||| ((f ((w2 + (1 : Int32))).toNatClampNeg) &&& (255 : Int32))))])) rfl (hb hby d1_67) _ ?_
          exact k)
        by_cases hc19 : ((((f (w2).toNatClampNeg) &&& (255 : Int32)) <<< ((8 : Int32) &&& 31)) ||| ((f ((w2 + (1 : Int32))).toNatClampNeg) &&& (255 : Int32))) = (34525 : Int32)
        · obtain ⟨fs, hr, hrun, hended, hW, hsame⟩ := X13.leave (v := some (.int (6 : Int32))) (fun h => by rw [Bd.returns] at h; cases h)
          refine ⟨_, _, pre18 _ ?_, hrun, hended, _, _, rfl, ?_, ⟨_, rfl⟩, hW, hsame.mono (by decide) (by decide)⟩
          · show Steps p.tables e below (T13.setTop (mkF m 69 #[.val (.ref a1), .val (.ref a2), .val (.int ((((f (w2).toNatClampNeg) &&& (255 : Int32)) <<< ((8 : Int32) &&& 31)) ||| ((f ((w2 + (1 : Int32))).toNatClampNeg) &&& (255 : Int32))))] [(.int (34525 : Int32)), (.int ((((f (w2).toNatClampNeg) &&& (255 : Int32)) <<< ((8 : Int32) &&& 31)) ||| ((f ((w2 + (1 : Int32))).toNatClampNeg) &&& (255 : Int32))))])) _
            refine XS.icmpNo X13.here hx rfl (hb hby d1_69) rfl (teq hc19).2 ?_
            show Steps p.tables e below (T13.setTop (mkF m 72 #[.val (.ref a1), .val (.ref a2), .val (.int ((((f (w2).toNatClampNeg) &&& (255 : Int32)) <<< ((8 : Int32) &&& 31)) ||| ((f ((w2 + (1 : Int32))).toNatClampNeg) &&& (255 : Int32))))] [])) _
            refine XS.bipush X13.here hx rfl (hb hby d1_72) ?_
            show Steps p.tables e below (T13.setTop (mkF m 74 #[.val (.ref a1), .val (.ref a2), .val (.int ((((f (w2).toNatClampNeg) &&& (255 : Int32)) <<< ((8 : Int32) &&& 31)) ||| ((f ((w2 + (1 : Int32))).toNatClampNeg) &&& (255 : Int32))))] [(.int (6 : Int32))])) _
            refine XS.goto X13.here hx rfl (pc0 := 74) (pc' := 78) rfl (hb hby d1_74) (by decide) (by decide) ?_
            show Steps p.tables e below (T13.setTop (mkF m 78 #[.val (.ref a1), .val (.ref a2), .val (.int ((((f (w2).toNatClampNeg) &&& (255 : Int32)) <<< ((8 : Int32) &&& 31)) ||| ((f ((w2 + (1 : Int32))).toNatClampNeg) &&& (255 : Int32))))] [(.int (6 : Int32))])) _
            exact retI X13 hx Bd.returns (hb hby d1_78) hr
          · show Q1 Z a1 a2 w1 w2 z f h0 n0 _ T13.heap _
            rw [e13]
            exact ⟨by rw [show (f1 w1 w2 z f) = (6 : Int32) from by first | (rw [f1, if_pos hc4, if_neg hc7, if_neg hc16, if_pos hc19]; done) | (simp only [f1, if_pos hc4, if_neg hc7, if_neg hc16, if_pos hc19]; done) | rfl], N0, rfl⟩
        · obtain ⟨fs, hr, hrun, hended, hW, hsame⟩ := X13.leave (v := some (.int (0 : Int32))) (fun h => by rw [Bd.returns] at h; cases h)
          refine ⟨_, _, pre18 _ ?_, hrun, hended, _, _, rfl, ?_, ⟨_, rfl⟩, hW, hsame.mono (by decide) (by decide)⟩
          · show Steps p.tables e below (T13.setTop (mkF m 69 #[.val (.ref a1), .val (.ref a2), .val (.int ((((f (w2).toNatClampNeg) &&& (255 : Int32)) <<< ((8 : Int32) &&& 31)) ||| ((f ((w2 + (1 : Int32))).toNatClampNeg) &&& (255 : Int32))))] [(.int (34525 : Int32)), (.int ((((f (w2).toNatClampNeg) &&& (255 : Int32)) <<< ((8 : Int32) &&& 31)) ||| ((f ((w2 + (1 : Int32))).toNatClampNeg) &&& (255 : Int32))))])) _
            refine XS.icmpYes X13.here hx rfl (pc0 := 69) (pc' := 77) rfl (hb hby d1_69) rfl (feq hc19).2 (by decide) (by decide) ?_
            show Steps p.tables e below (T13.setTop (mkF m 77 #[.val (.ref a1), .val (.ref a2), .val (.int ((((f (w2).toNatClampNeg) &&& (255 : Int32)) <<< ((8 : Int32) &&& 31)) ||| ((f ((w2 + (1 : Int32))).toNatClampNeg) &&& (255 : Int32))))] [])) _
            refine XS.iconst X13.here hx rfl (hb hby d1_77) ?_
            show Steps p.tables e below (T13.setTop (mkF m 78 #[.val (.ref a1), .val (.ref a2), .val (.int ((((f (w2).toNatClampNeg) &&& (255 : Int32)) <<< ((8 : Int32) &&& 31)) ||| ((f ((w2 + (1 : Int32))).toNatClampNeg) &&& (255 : Int32))))] [(.int (0 : Int32))])) _
            exact retI X13 hx Bd.returns (hb hby d1_78) hr
          · show Q1 Z a1 a2 w1 w2 z f h0 n0 _ T13.heap _
            rw [e13]
            exact ⟨by rw [show (f1 w1 w2 z f) = (0 : Int32) from by first | (rw [f1, if_pos hc4, if_neg hc7, if_neg hc16, if_neg hc19]; done) | (simp only [f1, if_pos hc4, if_neg hc7, if_neg hc16, if_neg hc19]; done) | rfl], N0, rfl⟩
  · obtain ⟨fs, hr, hrun, hended, hW, hsame⟩ := X2.leave (v := some (.int (0 : Int32))) (fun h => by rw [Bd.returns] at h; cases h)
    refine ⟨_, _, pre3 _ ?_, hrun, hended, _, _, rfl, ?_, ⟨_, rfl⟩, hW, hsame.mono (by decide) (by decide)⟩
    · show Steps p.tables e below (T2.setTop (mkF m 6 #[.val (.ref a1), .val (.ref a2), .unset] [(.int w1), (.int z)])) _
      refine XS.icmpNo X2.here hx rfl (hb hby d1_6) rfl (flt hc4).2.2.1 ?_
      show Steps p.tables e below (T2.setTop (mkF m 9 #[.val (.ref a1), .val (.ref a2), .unset] [])) _
      refine XS.iconst X2.here hx rfl (hb hby d1_9) ?_
      show Steps p.tables e below (T2.setTop (mkF m 10 #[.val (.ref a1), .val (.ref a2), .unset] [(.int (0 : Int32))])) _
      exact retI X2 hx Bd.returns (hb hby d1_10) hr
    · show Q1 Z a1 a2 w1 w2 z f h0 n0 _ T2.heap _
      rw [e2]
      exact ⟨by rw [show (f1 w1 w2 z f) = (0 : Int32) from by first | (rw [f1, if_neg hc4]; done) | (simp only [f1, if_neg hc4]; done) | rfl], N0, rfl⟩
theorem pd_0 : parseMethodDescriptor "([B)I" = some ⟨[(.array .byte)], some .int⟩ := by decide +kernel
theorem pn_1 : plainName "com/example/waymark/waymark/cli/LinkTypeIpVersionPinLaw" = true := by first | (simp [plainName, overriddenIn]; done) | decide +kernel
def m0_10_0 (p2 : Int32) (p3 : Int32) : Nat → Int32 := (if (12 : Int32) < (p2 &&& (31 : Int32)) then (fun i => if i = 12 then ((p3.toInt8.toInt32).toInt8.toInt32) else (fun _ => 0) i) else (fun _ => 0))
def m0_15_0 (p2 : Int32) (p3 : Int32) (p4 : Int32) : Nat → Int32 := (if (13 : Int32) < (p2 &&& (31 : Int32)) then (fun i => if i = 13 then ((p4.toInt8.toInt32).toInt8.toInt32) else (m0_10_0 p2 p3) i) else (m0_10_0 p2 p3))
def m0_20_0 (p2 : Int32) (p3 : Int32) (p4 : Int32) (p5 : Int32) : Nat → Int32 := (if (14 : Int32) < (p2 &&& (31 : Int32)) then (fun i => if i = 14 then ((p5.toInt8.toInt32).toInt8.toInt32) else (m0_15_0 p2 p3 p4) i) else (m0_15_0 p2 p3 p4))
def m0_27_0 (p2 : Int32) (p3 : Int32) (p4 : Int32) : Int32 := (if (14 : Int32) < (p2 &&& (31 : Int32)) then (if (((p3 &&& (255 : Int32)) <<< ((8 : Int32) &&& 31)) ||| (p4 &&& (255 : Int32))) = (2048 : Int32) then (4 : Int32) else (if (((p3 &&& (255 : Int32)) <<< ((8 : Int32) &&& 31)) ||| (p4 &&& (255 : Int32))) = (34525 : Int32) then (6 : Int32) else (0 : Int32))) else (0 : Int32))
def m0_27_1 (p2 : Int32) (p3 : Int32) (p4 : Int32) : Slot := (if (14 : Int32) < (p2 &&& (31 : Int32)) then .val (.int (((p3 &&& (255 : Int32)) <<< ((8 : Int32) &&& 31)) ||| (p4 &&& (255 : Int32)))) else .unset)
def m0_46_0 (p2 : Int32) (p5 : Int32) : Nat → Int32 := (if (0 : Int32) < (p2 &&& (31 : Int32)) then (fun i => if i = 0 then ((p5.toInt8.toInt32).toInt8.toInt32) else (fun _ => 0) i) else (fun _ => 0))
def m0_53_0 (p2 : Int32) (p5 : Int32) : Int32 := (if (0 : Int32) < (p2 &&& (31 : Int32)) then ((p5 &&& (255 : Int32)) >>> ((4 : Int32) &&& 31)) else (0 : Int32))
def m0_68_0 (p2 : Int32) (p3 : Int32) : Nat → Int32 := (if (14 : Int32) < (p2 &&& (31 : Int32)) then (fun i => if i = 14 then ((p3.toInt8.toInt32).toInt8.toInt32) else (fun _ => 0) i) else (fun _ => 0))
def m0_73_0 (p2 : Int32) (p3 : Int32) (p4 : Int32) : Nat → Int32 := (if (15 : Int32) < (p2 &&& (31 : Int32)) then (fun i => if i = 15 then ((p4.toInt8.toInt32).toInt8.toInt32) else (m0_68_0 p2 p3) i) else (m0_68_0 p2 p3))
def m0_78_0 (p2 : Int32) (p3 : Int32) (p4 : Int32) (p5 : Int32) : Nat → Int32 := (if (16 : Int32) < (p2 &&& (31 : Int32)) then (fun i => if i = 16 then ((p5.toInt8.toInt32).toInt8.toInt32) else (m0_73_0 p2 p3 p4) i) else (m0_73_0 p2 p3 p4))
def m0_85_0 (p2 : Int32) (p3 : Int32) (p4 : Int32) : Int32 := (if (16 : Int32) < (p2 &&& (31 : Int32)) then (if (((p3 &&& (255 : Int32)) <<< ((8 : Int32) &&& 31)) ||| (p4 &&& (255 : Int32))) = (2048 : Int32) then (4 : Int32) else (if (((p3 &&& (255 : Int32)) <<< ((8 : Int32) &&& 31)) ||| (p4 &&& (255 : Int32))) = (34525 : Int32) then (6 : Int32) else (0 : Int32))) else (0 : Int32))
def m0_85_1 (p2 : Int32) (p3 : Int32) (p4 : Int32) : Slot := (if (16 : Int32) < (p2 &&& (31 : Int32)) then .val (.int (((p3 &&& (255 : Int32)) <<< ((8 : Int32) &&& 31)) ||| (p4 &&& (255 : Int32)))) else .unset)
def m0_102_0 (p2 : Int32) (p3 : Int32) : Nat → Int32 := (if (0 : Int32) < (p2 &&& (31 : Int32)) then (fun i => if i = 0 then ((p3.toInt8.toInt32).toInt8.toInt32) else (fun _ => 0) i) else (fun _ => 0))
def m0_107_0 (p2 : Int32) (p3 : Int32) (p4 : Int32) : Nat → Int32 := (if (1 : Int32) < (p2 &&& (31 : Int32)) then (fun i => if i = 1 then ((p4.toInt8.toInt32).toInt8.toInt32) else (m0_102_0 p2 p3) i) else (m0_102_0 p2 p3))
def m0_112_0 (p2 : Int32) (p3 : Int32) (p4 : Int32) (p5 : Int32) : Nat → Int32 := (if (20 : Int32) < (p2 &&& (31 : Int32)) then (fun i => if i = 20 then ((p5.toInt8.toInt32).toInt8.toInt32) else (m0_107_0 p2 p3 p4) i) else (m0_107_0 p2 p3 p4))
def m0_119_0 (p2 : Int32) (p3 : Int32) (p4 : Int32) : Int32 := (if (20 : Int32) < (p2 &&& (31 : Int32)) then (if (((p3 &&& (255 : Int32)) <<< ((8 : Int32) &&& 31)) ||| (p4 &&& (255 : Int32))) = (2048 : Int32) then (4 : Int32) else (if (((p3 &&& (255 : Int32)) <<< ((8 : Int32) &&& 31)) ||| (p4 &&& (255 : Int32))) = (34525 : Int32) then (6 : Int32) else (0 : Int32))) else (0 : Int32))
def m0_119_1 (p2 : Int32) (p3 : Int32) (p4 : Int32) : Slot := (if (20 : Int32) < (p2 &&& (31 : Int32)) then .val (.int (((p3 &&& (255 : Int32)) <<< ((8 : Int32) &&& 31)) ||| (p4 &&& (255 : Int32)))) else .unset)
def f0 (p1 : Int32) (p2 : Int32) (p3 : Int32) (p4 : Int32) (p5 : Int32) : Int32 := if (p1 &&& (3 : Int32)) = (0 : Int32) then if (f1 (14 : Int32) (12 : Int32) (p2 &&& (31 : Int32)) (m0_20_0 p2 p3 p4 p5)) = (m0_27_0 p2 p3 p4) then (1 : Int32) else (0 : Int32) else if (p1 &&& (3 : Int32)) = (1 : Int32) then if (f1 (0 : Int32) (-1 : Int32) (p2 &&& (31 : Int32)) (m0_46_0 p2 p5)) = (m0_53_0 p2 p5) then (1 : Int32) else (0 : Int32) else if (p1 &&& (3 : Int32)) = (2 : Int32) then if (f1 (16 : Int32) (14 : Int32) (p2 &&& (31 : Int32)) (m0_78_0 p2 p3 p4 p5)) = (m0_85_0 p2 p3 p4) then (1 : Int32) else (0 : Int32) else if (f1 (20 : Int32) (0 : Int32) (p2 &&& (31 : Int32)) (m0_112_0 p2 p3 p4 p5)) = (m0_119_0 p2 p3 p4) then (1 : Int32) else (0 : Int32)
theorem ef_0 (m : MethodId) (x0 : Int32) (x1 : Int32) (x2 : Int32) (x3 : Int32) (x4 : Int32) : entryFrame m #[(.int x0), (.int x1), (.int x2), (.int x3), (.int x4)] maxLocals = mkF m 0 #[.val (.int x0), .val (.int x1), .val (.int x2), .val (.int x3), .val (.int x4), .unset, .unset, .unset, .unset, .unset, .unset, .unset, .unset, .unset] [] := by first | (simp [entryFrame, mkF, argsToLocals, Value.category, maxLocals]; done) | rfl
def Q0 (Z : State) (p1 : Int32) (p2 : Int32) (p3 : Int32) (p4 : Int32) (p5 : Int32) (s_ETHERNET : Addr) (s_LINUX_SLL2 : Addr) (s_LINUX_SLL : Addr) (s_RAW : Addr) (h0 : Heap) (n0 : Nat) (v : Option Value) (h : Heap) (L : List Loc) : Prop := v = some (.int (f0 p1 p2 p3 p4 p5)) ∧ Fr n0 L
set_option maxRecDepth 65536 in
set_option maxHeartbeats 40000000 in
theorem rm0 (l : Launch) (Z : State) (a0 : Array Value) (hw : ∀ d ∈ tables_1, d.before a0 Z = true) (ws : List Jvm.Cond) (p1 : Int32) (p2 : Int32) (p3 : Int32) (p4 : Int32) (p5 : Int32) (s_ETHERNET : Addr) (s_LINUX_SLL2 : Addr) (s_LINUX_SLL : Addr) (s_RAW : Addr) (h0 : Heap) (n0 : Nat) (Z0 : n0 ≤ h0.size) (O0 : Old Z n0 h0) (zS_ETHERNET : Sta Z Z.heap "com/example/waymark/waymark/cli/LinkType" "ETHERNET" "Lcom/example/waymark/waymark/cli/LinkType;" (.ref s_ETHERNET)) (zE_s_ETHERNET : Exa Z Z.heap s_ETHERNET "com/example/waymark/waymark/cli/LinkType") (zS_LINUX_SLL2 : Sta Z Z.heap "com/example/waymark/waymark/cli/LinkType" "LINUX_SLL2" "Lcom/example/waymark/waymark/cli/LinkType;" (.ref s_LINUX_SLL2)) (zE_s_LINUX_SLL2 : Exa Z Z.heap s_LINUX_SLL2 "com/example/waymark/waymark/cli/LinkType") (zS_LINUX_SLL : Sta Z Z.heap "com/example/waymark/waymark/cli/LinkType" "LINUX_SLL" "Lcom/example/waymark/waymark/cli/LinkType;" (.ref s_LINUX_SLL)) (zE_s_LINUX_SLL : Exa Z Z.heap s_LINUX_SLL "com/example/waymark/waymark/cli/LinkType") (zS_RAW : Sta Z Z.heap "com/example/waymark/waymark/cli/LinkType" "RAW" "Lcom/example/waymark/waymark/cli/LinkType;" (.ref s_RAW)) (zE_s_RAW : Exa Z Z.heap s_RAW "com/example/waymark/waymark/cli/LinkType") (zF_s_ETHERNET_headerLength : Fld Z Z.heap s_ETHERNET "com/example/waymark/waymark/cli/LinkType" "headerLength" "I" (.int (14 : Int32))) (zF_s_LINUX_SLL2_headerLength : Fld Z Z.heap s_LINUX_SLL2 "com/example/waymark/waymark/cli/LinkType" "headerLength" "I" (.int (20 : Int32))) (zF_s_ETHERNET_protocolOffset : Fld Z Z.heap s_ETHERNET "com/example/waymark/waymark/cli/LinkType" "protocolOffset" "I" (.int (12 : Int32))) (zF_s_LINUX_SLL2_protocolOffset : Fld Z Z.heap s_LINUX_SLL2 "com/example/waymark/waymark/cli/LinkType" "protocolOffset" "I" (.int (0 : Int32))) (zF_s_LINUX_SLL_headerLength : Fld Z Z.heap s_LINUX_SLL "com/example/waymark/waymark/cli/LinkType" "headerLength" "I" (.int (16 : Int32))) (zF_s_LINUX_SLL_protocolOffset : Fld Z Z.heap s_LINUX_SLL "com/example/waymark/waymark/cli/LinkType" "protocolOffset" "I" (.int (14 : Int32))) (zF_s_RAW_headerLength : Fld Z Z.heap s_RAW "com/example/waymark/waymark/cli/LinkType" "headerLength" "I" (.int (0 : Int32))) (zF_s_RAW_protocolOffset : Fld Z Z.heap s_RAW "com/example/waymark/waymark/cli/LinkType" "protocolOffset" "I" (.int (-1 : Int32))) :
    MetFree l x (head1 (Jvm.Cond.code x code maxLocals ret :: ws) room_1) (fun a U => a = #[(.int p1), (.int p2), (.int p3), (.int p4), (.int p5)] ∧ Z.Warmed39 U.vm ∧ U.heap = h0) (fun _ _ _ _ _ => True) (fun _ U o U' => ∃ v L, o = .returned v ∧ Q0 Z p1 p2 p3 p4 p5 s_ETHERNET s_LINUX_SLL2 s_LINUX_SLL s_RAW h0 n0 v U'.heap L ∧ FrameEnd U o U' L room_1.cells room_1.slots) := by
  refine MetFree.of_bodySF (plainFor_of_name pn_1) hisR ?_
  intro p e s m args below meth c s₁ Bd hml0 hP hK
  obtain ⟨rfl, hZ, hh⟩ := hP
  have hx := Bd.exec
  have hby := Bd.bytes
  have hml : c.maxLocals = 14 := hml0
  have hown : s.vm.findClass "com/example/waymark/waymark/cli/LinkTypeIpVersionPinLaw" = some m.cls := findClass_of_methodNamed Bd.named
  have hnm := (name_of_methodNamed Bd.named Bd.method).1
  have X0 : Stand p l e room_1 s m #[(.int p1), (.int p2), (.int p3), (.int p4), (.int p5)] below meth c s₁ [] 0 0 := Stand.of_body Bd
  have e0 : s₁.heap = h0 := by rw [← hh, Bd.state]; rfl
  have N0 := Fr.nil n0
  have pre0 : ∀ t, Steps p.tables e below (s₁.setTop (mkF m 0 #[.val (.int p1), .val (.int p2), .val (.int p3), .val (.int p4), .val (.int p5), .unset, .unset, .unset, .unset, .unset, .unset, .unset, .unset, .unset] [])) t → Steps p.tables e below (s₁.setTop (entryFrame m #[(.int p1), (.int p2), (.int p3), (.int p4), (.int p5)] maxLocals)) t := fun t k => castTop (ef_0 m p1 p2 p3 p4 p5) k
  have pre1 : ∀ t, Steps p.tables e below (s₁.setTop (mkF m 13 #[.val (.int p1), .val (.int p2), .val (.int p3), .val (.int p4), .val (.int p5), .val (.int (p1 &&& (3 : Int32))), .val (.int (p2 &&& (31 : Int32))), .unset, .unset, .unset, .unset, .unset, .unset, .unset] [(.int (p1 &&& (3 : Int32)))])) t → Steps p.tables e below (s₁.setTop (entryFrame m #[(.int p1), (.int p2), (.int p3), (.int p4), (.int p5)] maxLocals)) t := fun t k => pre0 t (by
    show Steps p.tables e below (s₁.setTop (mkF m 0 #[.val (.int p1), .val (.int p2), .val (.int p3), .val (.int p4), .val (.int p5), .unset, .unset, .unset, .unset, .unset, .unset, .unset, .unset, .unset] [])) _
    refine XS.iloadN X0.here hx rfl (hb hby at_0) rfl ?_
    show Steps p.tables e below (s₁.setTop (mkF m 1 #[.val (.int p1), .val (.int p2), .val (.int p3), .val (.int p4), .val (.int p5), .unset, .unset, .unset, .unset, .unset, .unset, .unset, .unset, .unset] [(.int p1)])) _
    refine XS.iconst X0.here hx rfl (hb hby at_1) ?_
    show Steps p.tables e below (s₁.setTop (mkF m 2 #[.val (.int p1), .val (.int p2), .val (.int p3), .val (.int p4), .val (.int p5), .unset, .unset, .unset, .unset, .unset, .unset, .unset, .unset, .unset] [(.int (3 : Int32)), (.int p1)])) _
    refine XS.iand X0.here hx rfl (hb hby at_2) rfl ?_
    show Steps p.tables e below (s₁.setTop (mkF m 3 #[.val (.int p1), .val (.int p2), .val (.int p3), .val (.int p4), .val (.int p5), .unset, .unset, .unset, .unset, .unset, .unset, .unset, .unset, .unset] [(.int (p1 &&& (3 : Int32)))])) _
    refine XS.istore X0.here hx rfl (hb hby at_3) rfl (l' := #[.val (.int p1), .val (.int p2), .val (.int p3), .val (.int p4), .val (.int p5), .val (.int (p1 &&& (3 : Int32))), .unset, .unset, .unset, .unset, .unset, .unset, .unset, .unset]) rfl ?_
    show Steps p.tables e below (s₁.setTop (mkF m 5 #[.val (.int p1), .val (.int p2), .val (.int p3), .val (.int p4), .val (.int p5), .val (.int (p1 &&& (3 : Int32))), .unset, .unset, .unset, .unset, .unset, .unset, .unset, .unset] [])) _
    refine XS.iloadN X0.here hx rfl (hb hby at_5) rfl ?_
    show Steps p.tables e below (s₁.setTop (mkF m 6 #[.val (.int p1), .val (.int p2), .val (.int p3), .val (.int p4), .val (.int p5), .val (.int (p1 &&& (3 : Int32))), .unset, .unset, .unset, .unset, .unset, .unset, .unset, .unset] [(.int p2)])) _
    refine XS.bipush X0.here hx rfl (hb hby at_6) ?_
    show Steps p.tables e below (s₁.setTop (mkF m 8 #[.val (.int p1), .val (.int p2), .val (.int p3), .val (.int p4), .val (.int p5), .val (.int (p1 &&& (3 : Int32))), .unset, .unset, .unset, .unset, .unset, .unset, .unset, .unset] [(.int (31 : Int32)), (.int p2)])) _
    refine XS.iand X0.here hx rfl (hb hby at_8) rfl ?_
    show Steps p.tables e below (s₁.setTop (mkF m 9 #[.val (.int p1), .val (.int p2), .val (.int p3), .val (.int p4), .val (.int p5), .val (.int (p1 &&& (3 : Int32))), .unset, .unset, .unset, .unset, .unset, .unset, .unset, .unset] [(.int (p2 &&& (31 : Int32)))])) _
    refine XS.istore X0.here hx rfl (hb hby at_9) rfl (l' := #[.val (.int p1), .val (.int p2), .val (.int p3), .val (.int p4), .val (.int p5), .val (.int (p1 &&& (3 : Int32))), .val (.int (p2 &&& (31 : Int32))), .unset, .unset, .unset, .unset, .unset, .unset, .unset]) rfl ?_
    show Steps p.tables e below (s₁.setTop (mkF m 11 #[.val (.int p1), .val (.int p2), .val (.int p3), .val (.int p4), .val (.int p5), .val (.int (p1 &&& (3 : Int32))), .val (.int (p2 &&& (31 : Int32))), .unset, .unset, .unset, .unset, .unset, .unset, .unset] [])) _
    refine XS.iload X0.here hx rfl (hb hby at_11) rfl ?_
    exact k)
  by_cases hc2 : (p1 &&& (3 : Int32)) = (0 : Int32)
  · obtain ⟨T3, X3, e3, st3⟩ := getS2 X0 hx hZ hown (host := "") (Or.inl (hw _ (List.mem_of_getElem? (i := 0) rfl))) Via.refl e0 (zS_ETHERNET.ext O0.2) (g := (mkF m 16 #[.val (.int p1), .val (.int p2), .val (.int p3), .val (.int p4), .val (.int p5), .val (.int (p1 &&& (3 : Int32))), .val (.int (p2 &&& (31 : Int32))), .unset, .unset, .unset, .unset, .unset, .unset, .unset] [])) rfl (hb hby at_16)
    obtain ⟨T4, h4, k4, X4, e4, E4, A4, st4⟩ := newP X3 hx hZ (hw _ (List.mem_of_getElem? (i := 3) rfl)) e3 (g := (mkF m 88 #[.val (.int p1), .val (.int p2), .val (.int p3), .val (.int p4), .val (.int p5), .val (.int (p1 &&& (3 : Int32))), .val (.int (p2 &&& (31 : Int32))), .val (.ref s_ETHERNET), .val (.int (14 : Int32)), .val (.int (12 : Int32)), .unset, .unset, .unset, .unset] [(.int (p2 &&& (31 : Int32)))])) rfl (hb hby at_88) rfl (own_nn31 _) (cap := 31) (own_le31 _) (by decide) (by decide) (by decide)
    obtain ⟨b4, g4⟩ : ∃ z, z = h0.size := ⟨_, rfl⟩
    rw [← g4] at A4 st4
    have ne5 : s_ETHERNET ≠ b4 := Nat.ne_of_lt (Nat.lt_of_lt_of_le (zE_s_ETHERNET.ext O0.2).lt (Nat.le_of_eq g4.symm))
    have ne6 : s_LINUX_SLL2 ≠ b4 := Nat.ne_of_lt (Nat.lt_of_lt_of_le (zE_s_LINUX_SLL2.ext O0.2).lt (Nat.le_of_eq g4.symm))
    have ne7 : s_LINUX_SLL ≠ b4 := Nat.ne_of_lt (Nat.lt_of_lt_of_le (zE_s_LINUX_SLL.ext O0.2).lt (Nat.le_of_eq g4.symm))
    have ne8 : s_RAW ≠ b4 := Nat.ne_of_lt (Nat.lt_of_lt_of_le (zE_s_RAW.ext O0.2).lt (Nat.le_of_eq g4.symm))
    have g_b4 : n0 ≤ b4 := Nat.le_trans Z0 (Nat.le_of_eq g4.symm)
    have sz_b4 : h0.size ≤ b4 := Nat.le_trans (Keep.refl h0 []).1 (Nat.le_of_eq g4.symm)
    have K4 : Keep h0 h4 [] := (Keep.refl h0 []).ext E4
    have V_b4 : AI Z h4 b4 .byte (p2 &&& (31 : Int32)) (fun _ => 0) := AI.new A4 (own_nn31 _) rfl
    have pre9 : ∀ t, Steps p.tables e below (T4.setTop (mkF m 101 #[.val (.int p1), .val (.int p2), .val (.int p3), .val (.int p4), .val (.int p5), .val (.int (p1 &&& (3 : Int32))), .val (.int (p2 &&& (31 : Int32))), .val (.ref s_ETHERNET), .val (.int (14 : Int32)), .val (.int (12 : Int32)), .val (.ref b4), .unset, .unset, .unset] [(.int (p2 &&& (31 : Int32))), (.int (12 : Int32))])) t → Steps p.tables e below (s₁.setTop (entryFrame m #[(.int p1), (.int p2), (.int p3), (.int p4), (.int p5)] maxLocals)) t := fun t k => pre1 t (by
      show Steps p.tables e below (s₁.setTop (mkF m 13 #[.val (.int p1), .val (.int p2), .val (.int p3), .val (.int p4), .val (.int p5), .val (.int (p1 &&& (3 : Int32))), .val (.int (p2 &&& (31 : Int32))), .unset, .unset, .unset, .unset, .unset, .unset, .unset] [(.int (p1 &&& (3 : Int32)))])) _
      refine XS.ifNo X0.here hx rfl (hb hby at_13) rfl ((if0 _ _).trans (teq hc2).2) ?_
      show Steps p.tables e below (s₁.setTop (mkF m 16 #[.val (.int p1), .val (.int p2), .val (.int p3), .val (.int p4), .val (.int p5), .val (.int (p1 &&& (3 : Int32))), .val (.int (p2 &&& (31 : Int32))), .unset, .unset, .unset, .unset, .unset, .unset, .unset] [])) _
      refine st3 _ ?_
      show Steps p.tables e below (T3.setTop (mkF m 19 #[.val (.int p1), .val (.int p2), .val (.int p3), .val (.int p4), .val (.int p5), .val (.int (p1 &&& (3 : Int32))), .val (.int (p2 &&& (31 : Int32))), .unset, .unset, .unset, .unset, .unset, .unset, .unset] [(.ref s_ETHERNET)])) _
      refine XS.astore X3.here hx rfl (hb hby at_19) rfl rfl (l' := #[.val (.int p1), .val (.int p2), .val (.int p3), .val (.int p4), .val (.int p5), .val (.int (p1 &&& (3 : Int32))), .val (.int (p2 &&& (31 : Int32))), .val (.ref s_ETHERNET), .unset, .unset, .unset, .unset, .unset, .unset]) rfl ?_
      show Steps p.tables e below (T3.setTop (mkF m 21 #[.val (.int p1), .val (.int p2), .val (.int p3), .val (.int p4), .val (.int p5), .val (.int (p1 &&& (3 : Int32))), .val (.int (p2 &&& (31 : Int32))), .val (.ref s_ETHERNET), .unset, .unset, .unset, .unset, .unset, .unset] [])) _
      refine XS.bipush X3.here hx rfl (hb hby at_21) ?_
      show Steps p.tables e below (T3.setTop (mkF m 23 #[.val (.int p1), .val (.int p2), .val (.int p3), .val (.int p4), .val (.int p5), .val (.int (p1 &&& (3 : Int32))), .val (.int (p2 &&& (31 : Int32))), .val (.ref s_ETHERNET), .unset, .unset, .unset, .unset, .unset, .unset] [(.int (14 : Int32))])) _
      refine XS.istore X3.here hx rfl (hb hby at_23) rfl (l' := #[.val (.int p1), .val (.int p2), .val (.int p3), .val (.int p4), .val (.int p5), .val (.int (p1 &&& (3 : Int32))), .val (.int (p2 &&& (31 : Int32))), .val (.ref s_ETHERNET), .val (.int (14 : Int32)), .unset, .unset, .unset, .unset, .unset]) rfl ?_
      show Steps p.tables e below (T3.setTop (mkF m 25 #[.val (.int p1), .val (.int p2), .val (.int p3), .val (.int p4), .val (.int p5), .val (.int (p1 &&& (3 : Int32))), .val (.int (p2 &&& (31 : Int32))), .val (.ref s_ETHERNET), .val (.int (14 : Int32)), .unset, .unset, .unset, .unset, .unset] [])) _
      refine XS.bipush X3.here hx rfl (hb hby at_25) ?_
      show Steps p.tables e below (T3.setTop (mkF m 27 #[.val (.int p1), .val (.int p2), .val (.int p3), .val (.int p4), .val (.int p5), .val (.int (p1 &&& (3 : Int32))), .val (.int (p2 &&& (31 : Int32))), .val (.ref s_ETHERNET), .val (.int (14 : Int32)), .unset, .unset, .unset, .unset, .unset] [(.int (12 : Int32))])) _
      refine XS.istore X3.here hx rfl (hb hby at_27) rfl (l' := #[.val (.int p1), .val (.int p2), .val (.int p3), .val (.int p4), .val (.int p5), .val (.int (p1 &&& (3 : Int32))), .val (.int (p2 &&& (31 : Int32))), .val (.ref s_ETHERNET), .val (.int (14 : Int32)), .val (.int (12 : Int32)), .unset, .unset, .unset, .unset]) rfl ?_
      show Steps p.tables e below (T3.setTop (mkF m 29 #[.val (.int p1), .val (.int p2), .val (.int p3), .val (.int p4), .val (.int p5), .val (.int (p1 &&& (3 : Int32))), .val (.int (p2 &&& (31 : Int32))), .val (.ref s_ETHERNET), .val (.int (14 : Int32)), .val (.int (12 : Int32)), .unset, .unset, .unset, .unset] [])) _
      refine XS.goto X3.here hx rfl (pc0 := 29) (pc' := 86) rfl (hb hby at_29) (by decide) (by decide) ?_
      show Steps p.tables e below (T3.setTop (mkF m 86 #[.val (.int p1), .val (.int p2), .val (.int p3), .val (.int p4), .val (.int p5), .val (.int (p1 &&& (3 : Int32))), .val (.int (p2 &&& (31 : Int32))), .val (.ref s_ETHERNET), .val (.int (14 : Int32)), .val (.int (12 : Int32)), .unset, .unset, .unset, .unset] [])) _
      refine XS.iload X3.here hx rfl (hb hby at_86) rfl ?_
      show Steps p.tables e below (T3.setTop (mkF m 88 #[.val (.int p1), .val (.int p2), .val (.int p3), .val (.int p4), .val (.int p5), .val (.int (p1 &&& (3 : Int32))), .val (.int (p2 &&& (31 : Int32))), .val (.ref s_ETHERNET), .val (.int (14 : Int32)), .val (.int (12 : Int32)), .unset, .unset, .unset, .unset] [(.int (p2 &&& (31 : Int32)))])) _
      refine st4 _ ?_
      show Steps p.tables e below (T4.setTop (mkF m 90 #[.val (.int p1), .val (.int p2), .val (.int p3), .val (.int p4), .val (.int p5), .val (.int (p1 &&& (3 : Int32))), .val (.int (p2 &&& (31 : Int32))), .val (.ref s_ETHERNET), .val (.int (14 : Int32)), .val (.int (12 : Int32)), .unset, .unset, .unset, .unset] [(.ref b4)])) _
      refine XS.astore X4.here hx rfl (hb hby at_90) rfl rfl (l' := #[.val (.int p1), .val (.int p2), .val (.int p3), .val (.int p4), .val (.int p5), .val (.int (p1 &&& (3 : Int32))), .val (.int (p2 &&& (31 : Int32))), .val (.ref s_ETHERNET), .val (.int (14 : Int32)), .val (.int (12 : Int32)), .val (.ref b4), .unset, .unset, .unset]) rfl ?_
      show Steps p.tables e below (T4.setTop (mkF m 92 #[.val (.int p1), .val (.int p2), .val (.int p3), .val (.int p4), .val (.int p5), .val (.int (p1 &&& (3 : Int32))), .val (.int (p2 &&& (31 : Int32))), .val (.ref s_ETHERNET), .val (.int (14 : Int32)), .val (.int (12 : Int32)), .val (.ref b4), .unset, .unset, .unset] [])) _
      refine XS.iload X4.here hx rfl (hb hby at_92) rfl ?_
      show Steps p.tables e below (T4.setTop (mkF m 94 #[.val (.int p1), .val (.int p2), .val (.int p3), .val (.int p4), .val (.int p5), .val (.int (p1 &&& (3 : Int32))), .val (.int (p2 &&& (31 : Int32))), .val (.ref s_ETHERNET), .val (.int (14 : Int32)), .val (.int (12 : Int32)), .val (.ref b4), .unset, .unset, .unset] [(.int (12 : Int32))])) _
      refine XS.ifNo X4.here hx rfl (hb hby at_94) rfl ((if0 _ _).trans (flt (by decide : ¬ ((12 : Int32) < (0 : Int32)))).1) ?_
      show Steps p.tables e below (T4.setTop (mkF m 97 #[.val (.int p1), .val (.int p2), .val (.int p3), .val (.int p4), .val (.int p5), .val (.int (p1 &&& (3 : Int32))), .val (.int (p2 &&& (31 : Int32))), .val (.ref s_ETHERNET), .val (.int (14 : Int32)), .val (.int (12 : Int32)), .val (.ref b4), .unset, .unset, .unset] [])) _
      refine XS.iload X4.here hx rfl (hb hby at_97) rfl ?_
      show Steps p.tables e below (T4.setTop (mkF m 99 #[.val (.int p1), .val (.int p2), .val (.int p3), .val (.int p4), .val (.int p5), .val (.int (p1 &&& (3 : Int32))), .val (.int (p2 &&& (31 : Int32))), .val (.ref s_ETHERNET), .val (.int (14 : Int32)), .val (.int (12 : Int32)), .val (.ref b4), .unset, .unset, .unset] [(.int (12 : Int32))])) _
      refine XS.iload X4.here hx rfl (hb hby at_99) rfl ?_
      exact k)
    obtain ⟨T10, locs10, h10, X10, e10, N10, Kj10, P10_0, pre10⟩ : ∃ (T' : State) (locs' : List Loc) (h' : Heap), Stand p l e room_1 s m #[(.int p1), (.int p2), (.int p3), (.int p4), (.int p5)] below meth c T' locs' 1 31 ∧ T'.heap = h' ∧ Fr n0 locs' ∧ Keep h4 h' [b4] ∧ AI Z h' b4 .byte (p2 &&& (31 : Int32)) (m0_10_0 p2 p3) ∧ ∀ t, Steps p.tables e below (T'.setTop (mkF m 111 #[.val (.int p1), .val (.int p2), .val (.int p3), .val (.int p4), .val (.int p5), .val (.int (p1 &&& (3 : Int32))), .val (.int (p2 &&& (31 : Int32))), .val (.ref s_ETHERNET), .val (.int (14 : Int32)), .val (.int (12 : Int32)), .val (.ref b4), .unset, .unset, .unset] [])) t → Steps p.tables e below (s₁.setTop (entryFrame m #[(.int p1), (.int p2), (.int p3), (.int p4), (.int p5)] maxLocals)) t := by
      by_cases hc11 : (12 : Int32) < (p2 &&& (31 : Int32))
      · obtain ⟨cl12, A12, S12, M12, G12⟩ := id V_b4
        have hin12 : ¬ ((12 : Int32) < 0 ∨ cl12.slots.size ≤ ((12 : Int32)).toNatClampNeg) := inb_of S12 (⟨by decide, hc11⟩)
        obtain ⟨T12, h12, X12, e12, W12, st12⟩ := stB X4 hx hZ e4 A12 (j := (12 : Int32)) hin12 (g := (mkF m 110 #[.val (.int p1), .val (.int p2), .val (.int p3), .val (.int p4), .val (.int p5), .val (.int (p1 &&& (3 : Int32))), .val (.int (p2 &&& (31 : Int32))), .val (.ref s_ETHERNET), .val (.int (14 : Int32)), .val (.int (12 : Int32)), .val (.ref b4), .unset, .unset, .unset] [(.int (p3.toInt8.toInt32)), (.int (12 : Int32)), (.ref b4)])) rfl rfl (hb hby at_110)
        have V12 : AI Z h12 b4 .byte (p2 &&& (31 : Int32)) (fun i => if i = 12 then ((p3.toInt8.toInt32).toInt8.toInt32) else (fun _ => 0) i) := AI.set A12 S12 M12 G12 W12
        have K12 : Keep h0 h12 [] := K4.wr W12 (Or.inr sz_b4)
        have N12 := Fr.snoc X12 N0 g_b4
        exact ⟨_, _, _, X12, e12, N12, ((Keep.refl _ [b4]).wr W12 (Or.inl (List.mem_of_getElem? (i := 0) rfl))), (by rw [show (m0_10_0 p2 p3) = (fun i => if i = 12 then ((p3.toInt8.toInt32).toInt8.toInt32) else (fun _ => 0) i) from by first | (rw [m0_10_0, if_pos hc11]; done) | (simp only [m0_10_0, if_pos hc11]; done) | rfl]; exact V12), fun t k => pre9 t (by
          show Steps p.tables e below (T4.setTop (mkF m 101 #[.val (.int p1), .val (.int p2), .val (.int p3), .val (.int p4), .val (.int p5), .val (.int (p1 &&& (3 : Int32))), .val (.int (p2 &&& (31 : Int32))), .val (.ref s_ETHERNET), .val (.int (14 : Int32)), .val (.int (12 : Int32)), .val (.ref b4), .unset, .unset, .unset] [(.int (p2 &&& (31 : Int32))), (.int (12 : Int32))])) _
          refine XS.icmpNo X4.here hx rfl (hb hby at_101) rfl (tlt hc11).2.1 ?_
          show Steps p.tables e below (T4.setTop (mkF m 104 #[.val (.int p1), .val (.int p2), .val (.int p3), .val (.int p4), .val (.int p5), .val (.int (p1 &&& (3 : Int32))), .val (.int (p2 &&& (31 : Int32))), .val (.ref s_ETHERNET), .val (.int (14 : Int32)), .val (.int (12 : Int32)), .val (.ref b4), .unset, .unset, .unset] [])) _
          refine XS.aload X4.here hx rfl (hb hby at_104) rfl rfl ?_
          show Steps p.tables e below (T4.setTop (mkF m 106 #[.val (.int p1), .val (.int p2), .val (.int p3), .val (.int p4), .val (.int p5), .val (.int (p1 &&& (3 : Int32))), .val (.int (p2 &&& (31 : Int32))), .val (.ref s_ETHERNET), .val (.int (14 : Int32)), .val (.int (12 : Int32)), .val (.ref b4), .unset, .unset, .unset] [(.ref b4)])) _
          refine XS.iload X4.here hx rfl (hb hby at_106) rfl ?_
          show Steps p.tables e below (T4.setTop (mkF m 108 #[.val (.int p1), .val (.int p2), .val (.int p3), .val (.int p4), .val (.int p5), .val (.int (p1 &&& (3 : Int32))), .val (.int (p2 &&& (31 : Int32))), .val (.ref s_ETHERNET), .val (.int (14 : Int32)), .val (.int (12 : Int32)), .val (.ref b4), .unset, .unset, .unset] [(.int (12 : Int32)), (.ref b4)])) _
          refine XS.iloadN X4.here hx rfl (hb hby at_108) rfl ?_
          show Steps p.tables e below (T4.setTop (mkF m 109 #[.val (.int p1), .val (.int p2), .val (.int p3), .val (.int p4), .val (.int p5), .val (.int (p1 &&& (3 : Int32))), .val (.int (p2 &&& (31 : Int32))), .val (.ref s_ETHERNET), .val (.int (14 : Int32)), .val (.int (12 : Int32)), .val (.ref b4), .unset, .unset, .unset] [(.int p3), (.int (12 : Int32)), (.ref b4)])) _
          refine XS.i2b X4.here hx rfl (hb hby at_109) rfl ?_
          show Steps p.tables e below (T4.setTop (mkF m 110 #[.val (.int p1), .val (.int p2), .val (.int p3), .val (.int p4), .val (.int p5), .val (.int (p1 &&& (3 : Int32))), .val (.int (p2 &&& (31 : Int32))), .val (.ref s_ETHERNET), .val (.int (14 : Int32)), .val (.int (12 : Int32)), .val (.ref b4), .unset, .unset, .unset] [(.int (p3.toInt8.toInt32)), (.int (12 : Int32)), (.ref b4)])) _
          refine st12 _ ?_
          exact k)⟩
      · exact ⟨_, _, _, X4, e4, N0, (Keep.refl _ [b4]), (by rw [show (m0_10_0 p2 p3) = (fun _ => 0) from by first | (rw [m0_10_0, if_neg hc11]; done) | (simp only [m0_10_0, if_neg hc11]; done) | rfl]; exact V_b4), fun t k => pre9 t (by
          show Steps p.tables e below (T4.setTop (mkF m 101 #[.val (.int p1), .val (.int p2), .val (.int p3), .val (.int p4), .val (.int p5), .val (.int (p1 &&& (3 : Int32))), .val (.int (p2 &&& (31 : Int32))), .val (.ref s_ETHERNET), .val (.int (14 : Int32)), .val (.int (12 : Int32)), .val (.ref b4), .unset, .unset, .unset] [(.int (p2 &&& (31 : Int32))), (.int (12 : Int32))])) _
          refine XS.icmpYes X4.here hx rfl (pc0 := 101) (pc' := 111) rfl (hb hby at_101) rfl (flt hc11).2.1 (by decide) (by decide) ?_
          exact k)⟩
    have K13 : Keep h0 h10 [] := K4.trans Kj10 (allS (Or.inr sz_b4) all0)
    have pre14 : ∀ t, Steps p.tables e below (T10.setTop (mkF m 117 #[.val (.int p1), .val (.int p2), .val (.int p3), .val (.int p4), .val (.int p5), .val (.int (p1 &&& (3 : Int32))), .val (.int (p2 &&& (31 : Int32))), .val (.ref s_ETHERNET), .val (.int (14 : Int32)), .val (.int (12 : Int32)), .val (.ref b4), .unset, .unset, .unset] [(.int (p2 &&& (31 : Int32))), (.int (13 : Int32))])) t → Steps p.tables e below (s₁.setTop (entryFrame m #[(.int p1), (.int p2), (.int p3), (.int p4), (.int p5)] maxLocals)) t := fun t k => pre10 t (by
      show Steps p.tables e below (T10.setTop (mkF m 111 #[.val (.int p1), .val (.int p2), .val (.int p3), .val (.int p4), .val (.int p5), .val (.int (p1 &&& (3 : Int32))), .val (.int (p2 &&& (31 : Int32))), .val (.ref s_ETHERNET), .val (.int (14 : Int32)), .val (.int (12 : Int32)), .val (.ref b4), .unset, .unset, .unset] [])) _
      refine XS.iload X10.here hx rfl (hb hby at_111) rfl ?_
      show Steps p.tables e below (T10.setTop (mkF m 113 #[.val (.int p1), .val (.int p2), .val (.int p3), .val (.int p4), .val (.int p5), .val (.int (p1 &&& (3 : Int32))), .val (.int (p2 &&& (31 : Int32))), .val (.ref s_ETHERNET), .val (.int (14 : Int32)), .val (.int (12 : Int32)), .val (.ref b4), .unset, .unset, .unset] [(.int (12 : Int32))])) _
      refine XS.iconst X10.here hx rfl (hb hby at_113) ?_
      show Steps p.tables e below (T10.setTop (mkF m 114 #[.val (.int p1), .val (.int p2), .val (.int p3), .val (.int p4), .val (.int p5), .val (.int (p1 &&& (3 : Int32))), .val (.int (p2 &&& (31 : Int32))), .val (.ref s_ETHERNET), .val (.int (14 : Int32)), .val (.int (12 : Int32)), .val (.ref b4), .unset, .unset, .unset] [(.int (1 : Int32)), (.int (12 : Int32))])) _
      refine XS.iadd X10.here hx rfl (hb hby at_114) rfl ?_
      show Steps p.tables e below (T10.setTop (mkF m 115 #[.val (.int p1), .val (.int p2), .val (.int p3), .val (.int p4), .val (.int p5), .val (.int (p1 &&& (3 : Int32))), .val (.int (p2 &&& (31 : Int32))), .val (.ref s_ETHERNET), .val (.int (14 : Int32)), .val (.int (12 : Int32)), .val (.ref b4), .unset, .unset, .unset] [(.int (13 : Int32))])) _
      refine XS.iload X10.here hx rfl (hb hby at_115) rfl ?_
      exact k)
    obtain ⟨T15, locs15, h15, X15, e15, N15, Kj15, P15_0, pre15⟩ : ∃ (T' : State) (locs' : List Loc) (h' : Heap), Stand p l e room_1 s m #[(.int p1), (.int p2), (.int p3), (.int p4), (.int p5)] below meth c T' locs' 1 31 ∧ T'.heap = h' ∧ Fr n0 locs' ∧ Keep h10 h' [b4] ∧ AI Z h' b4 .byte (p2 &&& (31 : Int32)) (m0_15_0 p2 p3 p4) ∧ ∀ t, Steps p.tables e below (T'.setTop (mkF m 129 #[.val (.int p1), .val (.int p2), .val (.int p3), .val (.int p4), .val (.int p5), .val (.int (p1 &&& (3 : Int32))), .val (.int (p2 &&& (31 : Int32))), .val (.ref s_ETHERNET), .val (.int (14 : Int32)), .val (.int (12 : Int32)), .val (.ref b4), .unset, .unset, .unset] [])) t → Steps p.tables e below (s₁.setTop (entryFrame m #[(.int p1), (.int p2), (.int p3), (.int p4), (.int p5)] maxLocals)) t := by
      by_cases hc16 : (13 : Int32) < (p2 &&& (31 : Int32))
      · obtain ⟨cl17, A17, S17, M17, G17⟩ := id P10_0
        have hin17 : ¬ ((13 : Int32) < 0 ∨ cl17.slots.size ≤ ((13 : Int32)).toNatClampNeg) := inb_of S17 (⟨by decide, hc16⟩)
        obtain ⟨T17, h17, X17, e17, W17, st17⟩ := stB X10 hx hZ e10 A17 (j := (13 : Int32)) hin17 (g := (mkF m 128 #[.val (.int p1), .val (.int p2), .val (.int p3), .val (.int p4), .val (.int p5), .val (.int (p1 &&& (3 : Int32))), .val (.int (p2 &&& (31 : Int32))), .val (.ref s_ETHERNET), .val (.int (14 : Int32)), .val (.int (12 : Int32)), .val (.ref b4), .unset, .unset, .unset] [(.int (p4.toInt8.toInt32)), (.int (13 : Int32)), (.ref b4)])) rfl rfl (hb hby at_128)
        have V17 : AI Z h17 b4 .byte (p2 &&& (31 : Int32)) (fun i => if i = 13 then ((p4.toInt8.toInt32).toInt8.toInt32) else (m0_10_0 p2 p3) i) := AI.set A17 S17 M17 G17 W17
        have K17 : Keep h0 h17 [] := K13.wr W17 (Or.inr sz_b4)
        have N17 := Fr.snoc X17 N10 g_b4
        exact ⟨_, _, _, X17, e17, N17, ((Keep.refl _ [b4]).wr W17 (Or.inl (List.mem_of_getElem? (i := 0) rfl))), (by rw [show (m0_15_0 p2 p3 p4) = (fun i => if i = 13 then ((p4.toInt8.toInt32).toInt8.toInt32) else (m0_10_0 p2 p3) i) from by first | (rw [m0_15_0, if_pos hc16]; done) | (simp only [m0_15_0, if_pos hc16]; done) | rfl]; exact V17), fun t k => pre14 t (by
          show Steps p.tables e below (T10.setTop (mkF m 117 #[.val (.int p1), .val (.int p2), .val (.int p3), .val (.int p4), .val (.int p5), .val (.int (p1 &&& (3 : Int32))), .val (.int (p2 &&& (31 : Int32))), .val (.ref s_ETHERNET), .val (.int (14 : Int32)), .val (.int (12 : Int32)), .val (.ref b4), .unset, .unset, .unset] [(.int (p2 &&& (31 : Int32))), (.int (13 : Int32))])) _
          refine XS.icmpNo X10.here hx rfl (hb hby at_117) rfl (tlt hc16).2.1 ?_
          show Steps p.tables e below (T10.setTop (mkF m 120 #[.val (.int p1), .val (.int p2), .val (.int p3), .val (.int p4), .val (.int p5), .val (.int (p1 &&& (3 : Int32))), .val (.int (p2 &&& (31 : Int32))), .val (.ref s_ETHERNET), .val (.int (14 : Int32)), .val (.int (12 : Int32)), .val (.ref b4), .unset, .unset, .unset] [])) _
          refine XS.aload X10.here hx rfl (hb hby at_120) rfl rfl ?_
          show Steps p.tables e below (T10.setTop (mkF m 122 #[.val (.int p1), .val (.int p2), .val (.int p3), .val (.int p4), .val (.int p5), .val (.int (p1 &&& (3 : Int32))), .val (.int (p2 &&& (31 : Int32))), .val (.ref s_ETHERNET), .val (.int (14 : Int32)), .val (.int (12 : Int32)), .val (.ref b4), .unset, .unset, .unset] [(.ref b4)])) _
          refine XS.iload X10.here hx rfl (hb hby at_122) rfl ?_
          show Steps p.tables e below (T10.setTop (mkF m 124 #[.val (.int p1), .val (.int p2), .val (.int p3), .val (.int p4), .val (.int p5), .val (.int (p1 &&& (3 : Int32))), .val (.int (p2 &&& (31 : Int32))), .val (.ref s_ETHERNET), .val (.int (14 : Int32)), .val (.int (12 : Int32)), .val (.ref b4), .unset, .unset, .unset] [(.int (12 : Int32)), (.ref b4)])) _
          refine XS.iconst X10.here hx rfl (hb hby at_124) ?_
          show Steps p.tables e below (T10.setTop (mkF m 125 #[.val (.int p1), .val (.int p2), .val (.int p3), .val (.int p4), .val (.int p5), .val (.int (p1 &&& (3 : Int32))), .val (.int (p2 &&& (31 : Int32))), .val (.ref s_ETHERNET), .val (.int (14 : Int32)), .val (.int (12 : Int32)), .val (.ref b4), .unset, .unset, .unset] [(.int (1 : Int32)), (.int (12 : Int32)), (.ref b4)])) _
          refine XS.iadd X10.here hx rfl (hb hby at_125) rfl ?_
          show Steps p.tables e below (T10.setTop (mkF m 126 #[.val (.int p1), .val (.int p2), .val (.int p3), .val (.int p4), .val (.int p5), .val (.int (p1 &&& (3 : Int32))), .val (.int (p2 &&& (31 : Int32))), .val (.ref s_ETHERNET), .val (.int (14 : Int32)), .val (.int (12 : Int32)), .val (.ref b4), .unset, .unset, .unset] [(.int (13 : Int32)), (.ref b4)])) _
          refine XS.iloadN X10.here hx rfl (hb hby at_126) rfl ?_
          show Steps p.tables e below (T10.setTop (mkF m 127 #[.val (.int p1), .val (.int p2), .val (.int p3), .val (.int p4), .val (.int p5), .val (.int (p1 &&& (3 : Int32))), .val (.int (p2 &&& (31 : Int32))), .val (.ref s_ETHERNET), .val (.int (14 : Int32)), .val (.int (12 : Int32)), .val (.ref b4), .unset, .unset, .unset] [(.int p4), (.int (13 : Int32)), (.ref b4)])) _
          refine XS.i2b X10.here hx rfl (hb hby at_127) rfl ?_
          show Steps p.tables e below (T10.setTop (mkF m 128 #[.val (.int p1), .val (.int p2), .val (.int p3), .val (.int p4), .val (.int p5), .val (.int (p1 &&& (3 : Int32))), .val (.int (p2 &&& (31 : Int32))), .val (.ref s_ETHERNET), .val (.int (14 : Int32)), .val (.int (12 : Int32)), .val (.ref b4), .unset, .unset, .unset] [(.int (p4.toInt8.toInt32)), (.int (13 : Int32)), (.ref b4)])) _
          refine st17 _ ?_
          exact k)⟩
      · exact ⟨_, _, _, X10, e10, N10, (Keep.refl _ [b4]), (by rw [show (m0_15_0 p2 p3 p4) = (m0_10_0 p2 p3) from by first | (rw [m0_15_0, if_neg hc16]; done) | (simp only [m0_15_0, if_neg hc16]; done) | rfl]; exact P10_0), fun t k => pre14 t (by
          show Steps p.tables e below (T10.setTop (mkF m 117 #[.val (.int p1), .val (.int p2), .val (.int p3), .val (.int p4), .val (.int p5), .val (.int (p1 &&& (3 : Int32))), .val (.int (p2 &&& (31 : Int32))), .val (.ref s_ETHERNET), .val (.int (14 : Int32)), .val (.int (12 : Int32)), .val (.ref b4), .unset, .unset, .unset] [(.int (p2 &&& (31 : Int32))), (.int (13 : Int32))])) _
          refine XS.icmpYes X10.here hx rfl (pc0 := 117) (pc' := 129) rfl (hb hby at_117) rfl (flt hc16).2.1 (by decide) (by decide) ?_
          exact k)⟩
    have K18 : Keep h0 h15 [] := K13.trans Kj15 (allS (Or.inr sz_b4) all0)
    have pre19 : ∀ t, Steps p.tables e below (T15.setTop (mkF m 133 #[.val (.int p1), .val (.int p2), .val (.int p3), .val (.int p4), .val (.int p5), .val (.int (p1 &&& (3 : Int32))), .val (.int (p2 &&& (31 : Int32))), .val (.ref s_ETHERNET), .val (.int (14 : Int32)), .val (.int (12 : Int32)), .val (.ref b4), .unset, .unset, .unset] [(.int (p2 &&& (31 : Int32))), (.int (14 : Int32))])) t → Steps p.tables e below (s₁.setTop (entryFrame m #[(.int p1), (.int p2), (.int p3), (.int p4), (.int p5)] maxLocals)) t := fun t k => pre15 t (by
      show Steps p.tables e below (T15.setTop (mkF m 129 #[.val (.int p1), .val (.int p2), .val (.int p3), .val (.int p4), .val (.int p5), .val (.int (p1 &&& (3 : Int32))), .val (.int (p2 &&& (31 : Int32))), .val (.ref s_ETHERNET), .val (.int (14 : Int32)), .val (.int (12 : Int32)), .val (.ref b4), .unset, .unset, .unset] [])) _
      refine XS.iload X15.here hx rfl (hb hby at_129) rfl ?_
      show Steps p.tables e below (T15.setTop (mkF m 131 #[.val (.int p1), .val (.int p2), .val (.int p3), .val (.int p4), .val (.int p5), .val (.int (p1 &&& (3 : Int32))), .val (.int (p2 &&& (31 : Int32))), .val (.ref s_ETHERNET), .val (.int (14 : Int32)), .val (.int (12 : Int32)), .val (.ref b4), .unset, .unset, .unset] [(.int (14 : Int32))])) _
      refine XS.iload X15.here hx rfl (hb hby at_131) rfl ?_
      exact k)
    obtain ⟨T20, locs20, h20, X20, e20, N20, Kj20, P20_0, pre20⟩ : ∃ (T' : State) (locs' : List Loc) (h' : Heap), Stand p l e room_1 s m #[(.int p1), (.int p2), (.int p3), (.int p4), (.int p5)] below meth c T' locs' 1 31 ∧ T'.heap = h' ∧ Fr n0 locs' ∧ Keep h15 h' [b4] ∧ AI Z h' b4 .byte (p2 &&& (31 : Int32)) (m0_20_0 p2 p3 p4 p5) ∧ ∀ t, Steps p.tables e below (T'.setTop (mkF m 144 #[.val (.int p1), .val (.int p2), .val (.int p3), .val (.int p4), .val (.int p5), .val (.int (p1 &&& (3 : Int32))), .val (.int (p2 &&& (31 : Int32))), .val (.ref s_ETHERNET), .val (.int (14 : Int32)), .val (.int (12 : Int32)), .val (.ref b4), .unset, .unset, .unset] [])) t → Steps p.tables e below (s₁.setTop (entryFrame m #[(.int p1), (.int p2), (.int p3), (.int p4), (.int p5)] maxLocals)) t := by
      by_cases hc21 : (14 : Int32) < (p2 &&& (31 : Int32))
      · obtain ⟨cl22, A22, S22, M22, G22⟩ := id P15_0
        have hin22 : ¬ ((14 : Int32) < 0 ∨ cl22.slots.size ≤ ((14 : Int32)).toNatClampNeg) := inb_of S22 (⟨by decide, hc21⟩)
        obtain ⟨T22, h22, X22, e22, W22, st22⟩ := stB X15 hx hZ e15 A22 (j := (14 : Int32)) hin22 (g := (mkF m 143 #[.val (.int p1), .val (.int p2), .val (.int p3), .val (.int p4), .val (.int p5), .val (.int (p1 &&& (3 : Int32))), .val (.int (p2 &&& (31 : Int32))), .val (.ref s_ETHERNET), .val (.int (14 : Int32)), .val (.int (12 : Int32)), .val (.ref b4), .unset, .unset, .unset] [(.int (p5.toInt8.toInt32)), (.int (14 : Int32)), (.ref b4)])) rfl rfl (hb hby at_143)
        have V22 : AI Z h22 b4 .byte (p2 &&& (31 : Int32)) (fun i => if i = 14 then ((p5.toInt8.toInt32).toInt8.toInt32) else (m0_15_0 p2 p3 p4) i) := AI.set A22 S22 M22 G22 W22
        have K22 : Keep h0 h22 [] := K18.wr W22 (Or.inr sz_b4)
        have N22 := Fr.snoc X22 N15 g_b4
        exact ⟨_, _, _, X22, e22, N22, ((Keep.refl _ [b4]).wr W22 (Or.inl (List.mem_of_getElem? (i := 0) rfl))), (by rw [show (m0_20_0 p2 p3 p4 p5) = (fun i => if i = 14 then ((p5.toInt8.toInt32).toInt8.toInt32) else (m0_15_0 p2 p3 p4) i) from by first | (rw [m0_20_0, if_pos hc21]; done) | (simp only [m0_20_0, if_pos hc21]; done) | rfl]; exact V22), fun t k => pre19 t (by
          show Steps p.tables e below (T15.setTop (mkF m 133 #[.val (.int p1), .val (.int p2), .val (.int p3), .val (.int p4), .val (.int p5), .val (.int (p1 &&& (3 : Int32))), .val (.int (p2 &&& (31 : Int32))), .val (.ref s_ETHERNET), .val (.int (14 : Int32)), .val (.int (12 : Int32)), .val (.ref b4), .unset, .unset, .unset] [(.int (p2 &&& (31 : Int32))), (.int (14 : Int32))])) _
          refine XS.icmpNo X15.here hx rfl (hb hby at_133) rfl (tlt hc21).2.1 ?_
          show Steps p.tables e below (T15.setTop (mkF m 136 #[.val (.int p1), .val (.int p2), .val (.int p3), .val (.int p4), .val (.int p5), .val (.int (p1 &&& (3 : Int32))), .val (.int (p2 &&& (31 : Int32))), .val (.ref s_ETHERNET), .val (.int (14 : Int32)), .val (.int (12 : Int32)), .val (.ref b4), .unset, .unset, .unset] [])) _
          refine XS.aload X15.here hx rfl (hb hby at_136) rfl rfl ?_
          show Steps p.tables e below (T15.setTop (mkF m 138 #[.val (.int p1), .val (.int p2), .val (.int p3), .val (.int p4), .val (.int p5), .val (.int (p1 &&& (3 : Int32))), .val (.int (p2 &&& (31 : Int32))), .val (.ref s_ETHERNET), .val (.int (14 : Int32)), .val (.int (12 : Int32)), .val (.ref b4), .unset, .unset, .unset] [(.ref b4)])) _
          refine XS.iload X15.here hx rfl (hb hby at_138) rfl ?_
          show Steps p.tables e below (T15.setTop (mkF m 140 #[.val (.int p1), .val (.int p2), .val (.int p3), .val (.int p4), .val (.int p5), .val (.int (p1 &&& (3 : Int32))), .val (.int (p2 &&& (31 : Int32))), .val (.ref s_ETHERNET), .val (.int (14 : Int32)), .val (.int (12 : Int32)), .val (.ref b4), .unset, .unset, .unset] [(.int (14 : Int32)), (.ref b4)])) _
          refine XS.iload X15.here hx rfl (hb hby at_140) rfl ?_
          show Steps p.tables e below (T15.setTop (mkF m 142 #[.val (.int p1), .val (.int p2), .val (.int p3), .val (.int p4), .val (.int p5), .val (.int (p1 &&& (3 : Int32))), .val (.int (p2 &&& (31 : Int32))), .val (.ref s_ETHERNET), .val (.int (14 : Int32)), .val (.int (12 : Int32)), .val (.ref b4), .unset, .unset, .unset] [(.int p5), (.int (14 : Int32)), (.ref b4)])) _
          refine XS.i2b X15.here hx rfl (hb hby at_142) rfl ?_
          show Steps p.tables e below (T15.setTop (mkF m 143 #[.val (.int p1), .val (.int p2), .val (.int p3), .val (.int p4), .val (.int p5), .val (.int (p1 &&& (3 : Int32))), .val (.int (p2 &&& (31 : Int32))), .val (.ref s_ETHERNET), .val (.int (14 : Int32)), .val (.int (12 : Int32)), .val (.ref b4), .unset, .unset, .unset] [(.int (p5.toInt8.toInt32)), (.int (14 : Int32)), (.ref b4)])) _
          refine st22 _ ?_
          exact k)⟩
      · exact ⟨_, _, _, X15, e15, N15, (Keep.refl _ [b4]), (by rw [show (m0_20_0 p2 p3 p4 p5) = (m0_15_0 p2 p3 p4) from by first | (rw [m0_20_0, if_neg hc21]; done) | (simp only [m0_20_0, if_neg hc21]; done) | rfl]; exact P15_0), fun t k => pre19 t (by
          show Steps p.tables e below (T15.setTop (mkF m 133 #[.val (.int p1), .val (.int p2), .val (.int p3), .val (.int p4), .val (.int p5), .val (.int (p1 &&& (3 : Int32))), .val (.int (p2 &&& (31 : Int32))), .val (.ref s_ETHERNET), .val (.int (14 : Int32)), .val (.int (12 : Int32)), .val (.ref b4), .unset, .unset, .unset] [(.int (p2 &&& (31 : Int32))), (.int (14 : Int32))])) _
          refine XS.icmpYes X15.here hx rfl (pc0 := 133) (pc' := 144) rfl (hb hby at_133) rfl (flt hc21).2.1 (by decide) (by decide) ?_
          exact k)⟩
    have K23 : Keep h0 h20 [] := K18.trans Kj20 (allS (Or.inr sz_b4) all0)
    have O24 := ((((O0.ext E4).keep Kj10 (allS g_b4 all0)).keep Kj15 (allS g_b4 all0)).keep Kj20 (allS g_b4 all0))
    obtain ⟨cq25, kq25, q25a, q25b, q25c⟩ := isOf hZ e20 (zE_s_ETHERNET.ext O24.2)
    obtain ⟨_, _, ⟨T25, L25, k25, n25⟩, -, X25, ⟨Lc25, hQ25, l25, y25, z25⟩, st25⟩ := X20.virtualBack hx (y := (⟨"com/example/waymark/waymark/cli/LinkType", "ipVersion", "([B)I"⟩ : MethodName)) (z := (⟨"com/example/waymark/waymark/cli/LinkType", "ipVersion", "([B)I"⟩ : MethodName)) hown (mvT hZ (hw _ (List.mem_of_getElem? (i := 4) rfl))) (mvT hZ (hw _ (List.mem_of_getElem? (i := 5) rfl))) (notFace_of_selects (args := #[]) (mvT hZ (hw _ (List.mem_of_getElem? (i := 7) rfl)))) (mvT hZ (hw _ (List.mem_of_getElem? (i := 7) rfl))) (mvT hZ (hw _ (List.mem_of_getElem? (i := 6) rfl))) (by decide) (backOf (W := 0) (rm1 l Z a0 hw [] s_ETHERNET b4 (14 : Int32) (12 : Int32) (p2 &&& (31 : Int32)) (m0_20_0 p2 p3 p4 p5) h20 n0 (Nat.le_trans Z0 K23.1) (zF_s_ETHERNET_headerLength.ext O24.2) (zF_s_ETHERNET_protocolOffset.ext O24.2) P20_0 (by decide : ¬ (14 : Int32) < 0) (by decide : ¬ (12 : Int32) < 0 → (12 : Int32) < (14 : Int32) ∧ (12 : Int32) + (1 : Int32) < (14 : Int32) ∧ ¬ (12 : Int32) + (1 : Int32) < 0)) hZ (hw _ (List.mem_of_getElem? (i := 8) rfl)) (hw _ (List.mem_of_getElem? (i := 1) rfl)) (by decide) (by decide)) q25a q25c (g := (mkF m 148 #[.val (.int p1), .val (.int p2), .val (.int p3), .val (.int p4), .val (.int p5), .val (.int (p1 &&& (3 : Int32))), .val (.int (p2 &&& (31 : Int32))), .val (.ref s_ETHERNET), .val (.int (14 : Int32)), .val (.int (12 : Int32)), .val (.ref b4), .unset, .unset, .unset] [(.ref b4), (.ref s_ETHERNET)])) rfl (by rw [hml]; rfl) (Steps.refl _) (argsL := [(.ref b4)]) (rest := []) (lenOf pd_0 rfl) rfl (by show 2 * 0 + _ ≤ _; exact Nat.le_of_eq rfl) (hb hby at_148) (fun _ _ => ⟨rfl, e20, (by decide : 1 + 0 ≤ _), (by decide : 31 + 0 ≤ _)⟩)
    dsimp only [Pt.U, Pt.locs, Pt.cells, Pt.slots] at X25 l25 y25 z25 st25 hQ25
    subst l25 y25 z25
    obtain ⟨rfl, N25q, e25⟩ := hQ25
    have N25 := Fr.app N20 N25q
    have pre26 : ∀ t, Steps p.tables e below (T25.setTop (mkF m 157 #[.val (.int p1), .val (.int p2), .val (.int p3), .val (.int p4), .val (.int p5), .val (.int (p1 &&& (3 : Int32))), .val (.int (p2 &&& (31 : Int32))), .val (.ref s_ETHERNET), .val (.int (14 : Int32)), .val (.int (12 : Int32)), .val (.ref b4), .val (.int (f1 (14 : Int32) (12 : Int32) (p2 &&& (31 : Int32)) (m0_20_0 p2 p3 p4 p5))), .unset, .unset] [(.int (14 : Int32)), (.int (p2 &&& (31 : Int32)))])) t → Steps p.tables e below (s₁.setTop (entryFrame m #[(.int p1), (.int p2), (.int p3), (.int p4), (.int p5)] maxLocals)) t := fun t k => pre20 t (by
      show Steps p.tables e below (T20.setTop (mkF m 144 #[.val (.int p1), .val (.int p2), .val (.int p3), .val (.int p4), .val (.int p5), .val (.int (p1 &&& (3 : Int32))), .val (.int (p2 &&& (31 : Int32))), .val (.ref s_ETHERNET), .val (.int (14 : Int32)), .val (.int (12 : Int32)), .val (.ref b4), .unset, .unset, .unset] [])) _
      refine XS.aload X20.here hx rfl (hb hby at_144) rfl rfl ?_
      show Steps p.tables e below (T20.setTop (mkF m 146 #[.val (.int p1), .val (.int p2), .val (.int p3), .val (.int p4), .val (.int p5), .val (.int (p1 &&& (3 : Int32))), .val (.int (p2 &&& (31 : Int32))), .val (.ref s_ETHERNET), .val (.int (14 : Int32)), .val (.int (12 : Int32)), .val (.ref b4), .unset, .unset, .unset] [(.ref s_ETHERNET)])) _
      refine XS.aload X20.here hx rfl (hb hby at_146) rfl rfl ?_
      show Steps p.tables e below (T20.setTop (mkF m 148 #[.val (.int p1), .val (.int p2), .val (.int p3), .val (.int p4), .val (.int p5), .val (.int (p1 &&& (3 : Int32))), .val (.int (p2 &&& (31 : Int32))), .val (.ref s_ETHERNET), .val (.int (14 : Int32)), .val (.int (12 : Int32)), .val (.ref b4), .unset, .unset, .unset] [(.ref b4), (.ref s_ETHERNET)])) _
      refine st25.trans ?_
      show Steps p.tables e below (T25.setTop (mkF m 151 #[.val (.int p1), .val (.int p2), .val (.int p3), .val (.int p4), .val (.int p5), .val (.int (p1 &&& (3 : Int32))), .val (.int (p2 &&& (31 : Int32))), .val (.ref s_ETHERNET), .val (.int (14 : Int32)), .val (.int (12 : Int32)), .val (.ref b4), .unset, .unset, .unset] [(.int (f1 (14 : Int32) (12 : Int32) (p2 &&& (31 : Int32)) (m0_20_0 p2 p3 p4 p5)))])) _
      refine XS.istore X25.here hx rfl (hb hby at_151) rfl (l' := #[.val (.int p1), .val (.int p2), .val (.int p3), .val (.int p4), .val (.int p5), .val (.int (p1 &&& (3 : Int32))), .val (.int (p2 &&& (31 : Int32))), .val (.ref s_ETHERNET), .val (.int (14 : Int32)), .val (.int (12 : Int32)), .val (.ref b4), .val (.int (f1 (14 : Int32) (12 : Int32) (p2 &&& (31 : Int32)) (m0_20_0 p2 p3 p4 p5))), .unset, .unset]) rfl ?_
      show Steps p.tables e below (T25.setTop (mkF m 153 #[.val (.int p1), .val (.int p2), .val (.int p3), .val (.int p4), .val (.int p5), .val (.int (p1 &&& (3 : Int32))), .val (.int (p2 &&& (31 : Int32))), .val (.ref s_ETHERNET), .val (.int (14 : Int32)), .val (.int (12 : Int32)), .val (.ref b4), .val (.int (f1 (14 : Int32) (12 : Int32) (p2 &&& (31 : Int32)) (m0_20_0 p2 p3 p4 p5))), .unset, .unset] [])) _
      refine XS.iload X25.here hx rfl (hb hby at_153) rfl ?_
      show Steps p.tables e below (T25.setTop (mkF m 155 #[.val (.int p1), .val (.int p2), .val (.int p3), .val (.int p4), .val (.int p5), .val (.int (p1 &&& (3 : Int32))), .val (.int (p2 &&& (31 : Int32))), .val (.ref s_ETHERNET), .val (.int (14 : Int32)), .val (.int (12 : Int32)), .val (.ref b4), .val (.int (f1 (14 : Int32) (12 : Int32) (p2 &&& (31 : Int32)) (m0_20_0 p2 p3 p4 p5))), .unset, .unset] [(.int (p2 &&& (31 : Int32)))])) _
      refine XS.iload X25.here hx rfl (hb hby at_155) rfl ?_
      exact k)
    have pre27 : ∀ t, Steps p.tables e below (T25.setTop (mkF m 231 #[.val (.int p1), .val (.int p2), .val (.int p3), .val (.int p4), .val (.int p5), .val (.int (p1 &&& (3 : Int32))), .val (.int (p2 &&& (31 : Int32))), .val (.ref s_ETHERNET), .val (.int (14 : Int32)), .val (.int (12 : Int32)), .val (.ref b4), .val (.int (f1 (14 : Int32) (12 : Int32) (p2 &&& (31 : Int32)) (m0_20_0 p2 p3 p4 p5))), .val (.int (m0_27_0 p2 p3 p4)), (m0_27_1 p2 p3 p4)] [])) t → Steps p.tables e below (s₁.setTop (entryFrame m #[(.int p1), (.int p2), (.int p3), (.int p4), (.int p5)] maxLocals)) t := by
      intro t k
      by_cases hc28 : (14 : Int32) < (p2 &&& (31 : Int32))
      · have pre29 : ∀ t, Steps p.tables e below (T25.setTop (mkF m 205 #[.val (.int p1), .val (.int p2), .val (.int p3), .val (.int p4), .val (.int p5), .val (.int (p1 &&& (3 : Int32))), .val (.int (p2 &&& (31 : Int32))), .val (.ref s_ETHERNET), .val (.int (14 : Int32)), .val (.int (12 : Int32)), .val (.ref b4), .val (.int (f1 (14 : Int32) (12 : Int32) (p2 &&& (31 : Int32)) (m0_20_0 p2 p3 p4 p5))), .unset, .val (.int (((p3 &&& (255 : Int32)) <<< ((8 : Int32) &&& 31)) ||| (p4 &&& (255 : Int32))))] [(.int (2048 : Int32)), (.int (((p3 &&& (255 : Int32)) <<< ((8 : Int32) &&& 31)) ||| (p4 &&& (255 : Int32))))])) t → Steps p.tables e below (s₁.setTop (entryFrame m #[(.int p1), (.int p2), (.int p3), (.int p4), (.int p5)] maxLocals)) t := fun t k => pre26 t (by
          show Steps p.tables e below (T25.setTop (mkF m 157 #[.val (.int p1), .val (.int p2), .val (.int p3), .val (.int p4), .val (.int p5), .val (.int (p1 &&& (3 : Int32))), .val (.int (p2 &&& (31 : Int32))), .val (.ref s_ETHERNET), .val (.int (14 : Int32)), .val (.int (12 : Int32)), .val (.ref b4), .val (.int (f1 (14 : Int32) (12 : Int32) (p2 &&& (31 : Int32)) (m0_20_0 p2 p3 p4 p5))), .unset, .unset] [(.int (14 : Int32)), (.int (p2 &&& (31 : Int32)))])) _
          refine XS.icmpYes X25.here hx rfl (pc0 := 157) (pc' := 166) rfl (hb hby at_157) rfl (tlt hc28).2.2.1 (by decide) (by decide) ?_
          show Steps p.tables e below (T25.setTop (mkF m 166 #[.val (.int p1), .val (.int p2), .val (.int p3), .val (.int p4), .val (.int p5), .val (.int (p1 &&& (3 : Int32))), .val (.int (p2 &&& (31 : Int32))), .val (.ref s_ETHERNET), .val (.int (14 : Int32)), .val (.int (12 : Int32)), .val (.ref b4), .val (.int (f1 (14 : Int32) (12 : Int32) (p2 &&& (31 : Int32)) (m0_20_0 p2 p3 p4 p5))), .unset, .unset] [])) _
          refine XS.iload X25.here hx rfl (hb hby at_166) rfl ?_
          show Steps p.tables e below (T25.setTop (mkF m 168 #[.val (.int p1), .val (.int p2), .val (.int p3), .val (.int p4), .val (.int p5), .val (.int (p1 &&& (3 : Int32))), .val (.int (p2 &&& (31 : Int32))), .val (.ref s_ETHERNET), .val (.int (14 : Int32)), .val (.int (12 : Int32)), .val (.ref b4), .val (.int (f1 (14 : Int32) (12 : Int32) (p2 &&& (31 : Int32)) (m0_20_0 p2 p3 p4 p5))), .unset, .unset] [(.int (12 : Int32))])) _
          refine XS.ifYes X25.here hx rfl (pc0 := 168) (pc' := 184) rfl (hb hby at_168) rfl ((if0 _ _).trans (flt (by decide : ¬ ((12 : Int32) < (0 : Int32)))).2.1) (by decide) (by decide) ?_
          show Steps p.tables e below (T25.setTop (mkF m 184 #[.val (.int p1), .val (.int p2), .val (.int p3), .val (.int p4), .val (.int p5), .val (.int (p1 &&& (3 : Int32))), .val (.int (p2 &&& (31 : Int32))), .val (.ref s_ETHERNET), .val (.int (14 : Int32)), .val (.int (12 : Int32)), .val (.ref b4), .val (.int (f1 (14 : Int32) (12 : Int32) (p2 &&& (31 : Int32)) (m0_20_0 p2 p3 p4 p5))), .unset, .unset] [])) _
          refine XS.iloadN X25.here hx rfl (hb hby at_184) rfl ?_
          show Steps p.tables e below (T25.setTop (mkF m 185 #[.val (.int p1), .val (.int p2), .val (.int p3), .val (.int p4), .val (.int p5), .val (.int (p1 &&& (3 : Int32))), .val (.int (p2 &&& (31 : Int32))), .val (.ref s_ETHERNET), .val (.int (14 : Int32)), .val (.int (12 : Int32)), .val (.ref b4), .val (.int (f1 (14 : Int32) (12 : Int32) (p2 &&& (31 : Int32)) (m0_20_0 p2 p3 p4 p5))), .unset, .unset] [(.int p3)])) _
          refine XS.sipush X25.here hx rfl (hb hby at_185) ?_
          show Steps p.tables e below (T25.setTop (mkF m 188 #[.val (.int p1), .val (.int p2), .val (.int p3), .val (.int p4), .val (.int p5), .val (.int (p1 &&& (3 : Int32))), .val (.int (p2 &&& (31 : Int32))), .val (.ref s_ETHERNET), .val (.int (14 : Int32)), .val (.int (12 : Int32)), .val (.ref b4), .val (.int (f1 (14 : Int32) (12 : Int32) (p2 &&& (31 : Int32)) (m0_20_0 p2 p3 p4 p5))), .unset, .unset] [(.int (255 : Int32)), (.int p3)])) _
          refine XS.iand X25.here hx rfl (hb hby at_188) rfl ?_
          show Steps p.tables e below (T25.setTop (mkF m 189 #[.val (.int p1), .val (.int p2), .val (.int p3), .val (.int p4), .val (.int p5), .val (.int (p1 &&& (3 : Int32))), .val (.int (p2 &&& (31 : Int32))), .val (.ref s_ETHERNET), .val (.int (14 : Int32)), .val (.int (12 : Int32)), .val (.ref b4), .val (.int (f1 (14 : Int32) (12 : Int32) (p2 &&& (31 : Int32)) (m0_20_0 p2 p3 p4 p5))), .unset, .unset] [(.int (p3 &&& (255 : Int32)))])) _
          refine XS.bipush X25.here hx rfl (hb hby at_189) ?_
          show Steps p.tables e below (T25.setTop (mkF m 191 #[.val (.int p1), .val (.int p2), .val (.int p3), .val (.int p4), .val (.int p5), .val (.int (p1 &&& (3 : Int32))), .val (.int (p2 &&& (31 : Int32))), .val (.ref s_ETHERNET), .val (.int (14 : Int32)), .val (.int (12 : Int32)), .val (.ref b4), .val (.int (f1 (14 : Int32) (12 : Int32) (p2 &&& (31 : Int32)) (m0_20_0 p2 p3 p4 p5))), .unset, .unset] [(.int (8 : Int32)), (.int (p3 &&& (255 : Int32)))])) _
          refine XS.ishl X25.here hx rfl (hb hby at_191) rfl ?_
          show Steps p.tables e below (T25.setTop (mkF m 192 #[.val (.int p1), .val (.int p2), .val (.int p3), .val (.int p4), .val (.int p5), .val (.int (p1 &&& (3 : Int32))), .val (.int (p2 &&& (31 : Int32))), .val (.ref s_ETHERNET), .val (.int (14 : Int32)), .val (.int (12 : Int32)), .val (.ref b4), .val (.int (f1 (14 : Int32) (12 : Int32) (p2 &&& (31 : Int32)) (m0_20_0 p2 p3 p4 p5))), .unset, .unset] [(.int ((p3 &&& (255 : Int32)) <<< ((8 : Int32) &&& 31)))])) _
          refine XS.iloadN X25.here hx rfl (hb hby at_192) rfl ?_
          show Steps p.tables e below (T25.setTop (mkF m 193 #[.val (.int p1), .val (.int p2), .val (.int p3), .val (.int p4), .val (.int p5), .val (.int (p1 &&& (3 : Int32))), .val (.int (p2 &&& (31 : Int32))), .val (.ref s_ETHERNET), .val (.int (14 : Int32)), .val (.int (12 : Int32)), .val (.ref b4), .val (.int (f1 (14 : Int32) (12 : Int32) (p2 &&& (31 : Int32)) (m0_20_0 p2 p3 p4 p5))), .unset, .unset] [(.int p4), (.int ((p3 &&& (255 : Int32)) <<< ((8 : Int32) &&& 31)))])) _
          refine XS.sipush X25.here hx rfl (hb hby at_193) ?_
          show Steps p.tables e below (T25.setTop (mkF m 196 #[.val (.int p1), .val (.int p2), .val (.int p3), .val (.int p4), .val (.int p5), .val (.int (p1 &&& (3 : Int32))), .val (.int (p2 &&& (31 : Int32))), .val (.ref s_ETHERNET), .val (.int (14 : Int32)), .val (.int (12 : Int32)), .val (.ref b4), .val (.int (f1 (14 : Int32) (12 : Int32) (p2 &&& (31 : Int32)) (m0_20_0 p2 p3 p4 p5))), .unset, .unset] [(.int (255 : Int32)), (.int p4), (.int ((p3 &&& (255 : Int32)) <<< ((8 : Int32) &&& 31)))])) _
          refine XS.iand X25.here hx rfl (hb hby at_196) rfl ?_
          show Steps p.tables e below (T25.setTop (mkF m 197 #[.val (.int p1), .val (.int p2), .val (.int p3), .val (.int p4), .val (.int p5), .val (.int (p1 &&& (3 : Int32))), .val (.int (p2 &&& (31 : Int32))), .val (.ref s_ETHERNET), .val (.int (14 : Int32)), .val (.int (12 : Int32)), .val (.ref b4), .val (.int (f1 (14 : Int32) (12 : Int32) (p2 &&& (31 : Int32)) (m0_20_0 p2 p3 p4 p5))), .unset, .unset] [(.int (p4 &&& (255 : Int32))), (.int ((p3 &&& (255 : Int32)) <<< ((8 : Int32) &&& 31)))])) _
          refine XS.ior X25.here hx rfl (hb hby at_197) rfl ?_
          show Steps p.tables e below (T25.setTop (mkF m 198 #[.val (.int p1), .val (.int p2), .val (.int p3), .val (.int p4), .val (.int p5), .val (.int (p1 &&& (3 : Int32))), .val (.int (p2 &&& (31 : Int32))), .val (.ref s_ETHERNET), .val (.int (14 : Int32)), .val (.int (12 : Int32)), .val (.ref b4), .val (.int (f1 (14 : Int32) (12 : Int32) (p2 &&& (31 : Int32)) (m0_20_0 p2 p3 p4 p5))), .unset, .unset] [(.int (((p3 &&& (255 : Int32)) <<< ((8 : Int32) &&& 31)) ||| (p4 &&& (255 : Int32))))])) _
          refine XS.istore X25.here hx rfl (hb hby at_198) rfl (l' := #[.val (.int p1), .val (.int p2), .val (.int p3), .val (.int p4), .val (.int p5), .val (.int (p1 &&& (3 : Int32))), .val (.int (p2 &&& (31 : Int32))), .val (.ref s_ETHERNET), .val (.int (14 : Int32)), .val (.int (12 : Int32)), .val (.ref b4), .val (.int (f1 (14 : Int32) (12 : Int32) (p2 &&& (31 : Int32)) (m0_20_0 p2 p3 p4 p5))), .unset, .val (.int (((p3 &&& (255 : Int32)) <<< ((8 : Int32) &&& 31)) ||| (p4 &&& (255 : Int32))))]) rfl ?_
          show Steps p.tables e below (T25.setTop (mkF m 200 #[.val (.int p1), .val (.int p2), .val (.int p3), .val (.int p4), .val (.int p5), .val (.int (p1 &&& (3 : Int32))), .val (.int (p2 &&& (31 : Int32))), .val (.ref s_ETHERNET), .val (.int (14 : Int32)), .val (.int (12 : Int32)), .val (.ref b4), .val (.int (f1 (14 : Int32) (12 : Int32) (p2 &&& (31 : Int32)) (m0_20_0 p2 p3 p4 p5))), .unset, .val (.int (((p3 &&& (255 : Int32)) <<< ((8 : Int32) &&& 31)) ||| (p4 &&& (255 : Int32))))] [])) _
          refine XS.iload X25.here hx rfl (hb hby at_200) rfl ?_
          show Steps p.tables e below (T25.setTop (mkF m 202 #[.val (.int p1), .val (.int p2), .val (.int p3), .val (.int p4), .val (.int p5), .val (.int (p1 &&& (3 : Int32))), .val (.int (p2 &&& (31 : Int32))), .val (.ref s_ETHERNET), .val (.int (14 : Int32)), .val (.int (12 : Int32)), .val (.ref b4), .val (.int (f1 (14 : Int32) (12 : Int32) (p2 &&& (31 : Int32)) (m0_20_0 p2 p3 p4 p5))), .unset, .val (.int (((p3 &&& (255 : Int32)) <<< ((8 : Int32) &&& 31)) ||| (p4 &&& (255 : Int32))))] [(.int (((p3 &&& (255 : Int32)) <<< ((8 : Int32) &&& 31)) ||| (p4 &&& (255 : Int32))))])) _
          refine XS.sipush X25.here hx rfl (hb hby at_202) ?_
          exact k)
        by_cases hc30 : (((p3 &&& (255 : Int32)) <<< ((8 : Int32) &&& 31)) ||| (p4 &&& (255 : Int32))) = (2048 : Int32)
        · rw [show (m0_27_0 p2 p3 p4) = (4 : Int32) from by first | (rw [m0_27_0, if_pos hc28, if_pos hc30]; done) | (simp only [m0_27_0, if_pos hc28, if_pos hc30]; done) | rfl] at k
          rw [show (m0_27_1 p2 p3 p4) = .val (.int (((p3 &&& (255 : Int32)) <<< ((8 : Int32) &&& 31)) ||| (p4 &&& (255 : Int32)))) from by first | (rw [m0_27_1, if_pos hc28]; done) | (simp only [m0_27_1, if_pos hc28]; done) | rfl] at k
          refine pre29 t ?_
          show Steps p.tables e below (T25.setTop (mkF m 205 #[.val (.int p1), .val (.int p2), .val (.int p3), .val (.int p4), .val (.int p5), .val (.int (p1 &&& (3 : Int32))), .val (.int (p2 &&& (31 : Int32))), .val (.ref s_ETHERNET), .val (.int (14 : Int32)), .val (.int (12 : Int32)), .val (.ref b4), .val (.int (f1 (14 : Int32) (12 : Int32) (p2 &&& (31 : Int32)) (m0_20_0 p2 p3 p4 p5))), .unset, .val (.int (((p3 &&& (255 : Int32)) <<< ((8 : Int32) &&& 31)) ||| (p4 &&& (255 : Int32))))] [(.int (2048 : Int32)), (.int (((p3 &&& (255 : Int32)) <<< ((8 : Int32) &&& 31)) ||| (p4 &&& (255 : Int32))))])) _
          refine XS.icmpNo X25.here hx rfl (hb hby at_205) rfl (teq hc30).2 ?_
          show Steps p.tables e below (T25.setTop (mkF m 208 #[.val (.int p1), .val (.int p2), .val (.int p3), .val (.int p4), .val (.int p5), .val (.int (p1 &&& (3 : Int32))), .val (.int (p2 &&& (31 : Int32))), .val (.ref s_ETHERNET), .val (.int (14 : Int32)), .val (.int (12 : Int32)), .val (.ref b4), .val (.int (f1 (14 : Int32) (12 : Int32) (p2 &&& (31 : Int32)) (m0_20_0 p2 p3 p4 p5))), .unset, .val (.int (((p3 &&& (255 : Int32)) <<< ((8 : Int32) &&& 31)) ||| (p4 &&& (255 : Int32))))] [])) _
          refine XS.iconst X25.here hx rfl (hb hby at_208) ?_
          show Steps p.tables e below (T25.setTop (mkF m 209 #[.val (.int p1), .val (.int p2), .val (.int p3), .val (.int p4), .val (.int p5), .val (.int (p1 &&& (3 : Int32))), .val (.int (p2 &&& (31 : Int32))), .val (.ref s_ETHERNET), .val (.int (14 : Int32)), .val (.int (12 : Int32)), .val (.ref b4), .val (.int (f1 (14 : Int32) (12 : Int32) (p2 &&& (31 : Int32)) (m0_20_0 p2 p3 p4 p5))), .unset, .val (.int (((p3 &&& (255 : Int32)) <<< ((8 : Int32) &&& 31)) ||| (p4 &&& (255 : Int32))))] [(.int (4 : Int32))])) _
          refine XS.istore X25.here hx rfl (hb hby at_209) rfl (l' := #[.val (.int p1), .val (.int p2), .val (.int p3), .val (.int p4), .val (.int p5), .val (.int (p1 &&& (3 : Int32))), .val (.int (p2 &&& (31 : Int32))), .val (.ref s_ETHERNET), .val (.int (14 : Int32)), .val (.int (12 : Int32)), .val (.ref b4), .val (.int (f1 (14 : Int32) (12 : Int32) (p2 &&& (31 : Int32)) (m0_20_0 p2 p3 p4 p5))), .val (.int (4 : Int32)), .val (.int (((p3 &&& (255 : Int32)) <<< ((8 : Int32) &&& 31)) ||| (p4 &&& (255 : Int32))))]) rfl ?_
          show Steps p.tables e below (T25.setTop (mkF m 211 #[.val (.int p1), .val (.int p2), .val (.int p3), .val (.int p4), .val (.int p5), .val (.int (p1 &&& (3 : Int32))), .val (.int (p2 &&& (31 : Int32))), .val (.ref s_ETHERNET), .val (.int (14 : Int32)), .val (.int (12 : Int32)), .val (.ref b4), .val (.int (f1 (14 : Int32) (12 : Int32) (p2 &&& (31 : Int32)) (m0_20_0 p2 p3 p4 p5))), .val (.int (4 : Int32)), .val (.int (((p3 &&& (255 : Int32)) <<< ((8 : Int32) &&& 31)) ||| (p4 &&& (255 : Int32))))] [])) _
          refine XS.goto X25.here hx rfl (pc0 := 211) (pc' := 231) rfl (hb hby at_211) (by decide) (by decide) ?_
          exact k
        · have pre31 : ∀ t, Steps p.tables e below (T25.setTop (mkF m 218 #[.val (.int p1), .val (.int p2), .val (.int p3), .val (.int p4), .val (.int p5), .val (.int (p1 &&& (3 : Int32))), .val (.int (p2 &&& (31 : Int32))), .val (.ref s_ETHERNET), .val (.int (14 : Int32)), .val (.int (12 : Int32)), .val (.ref b4), .val (.int (f1 (14 : Int32) (12 : Int32) (p2 &&& (31 : Int32)) (m0_20_0 p2 p3 p4 p5))), .unset, .val (.int (((p3 &&& (255 : Int32)) <<< ((8 : Int32) &&& 31)) ||| (p4 &&& (255 : Int32))))] [(.int (34525 : Int32)), (.int (((p3 &&& (255 : Int32)) <<< ((8 : Int32) &&& 31)) ||| (p4 &&& (255 : Int32))))])) t → Steps p.tables e below (s₁.setTop (entryFrame m #[(.int p1), (.int p2), (.int p3), (.int p4), (.int p5)] maxLocals)) t := fun t k => pre29 t (by
            show Steps p.tables e below (T25.setTop (mkF m 205 #[.val (.int p1), .val (.int p2), .val (.int p3), .val (.int p4), .val (.int p5), .val (.int (p1 &&& (3 : Int32))), .val (.int (p2 &&& (31 : Int32))), .val (.ref s_ETHERNET), .val (.int (14 : Int32)), .val (.int (12 : Int32)), .val (.ref b4), .val (.int (f1 (14 : Int32) (12 : Int32) (p2 &&& (31 : Int32)) (m0_20_0 p2 p3 p4 p5))), .unset, .val (.int (((p3 &&& (255 : Int32)) <<< ((8 : Int32) &&& 31)) ||| (p4 &&& (255 : Int32))))] [(.int (2048 : Int32)), (.int (((p3 &&& (255 : Int32)) <<< ((8 : Int32) &&& 31)) ||| (p4 &&& (255 : Int32))))])) _
            refine XS.icmpYes X25.here hx rfl (pc0 := 205) (pc' := 214) rfl (hb hby at_205) rfl (feq hc30).2 (by decide) (by decide) ?_
            show Steps p.tables e below (T25.setTop (mkF m 214 #[.val (.int p1), .val (.int p2), .val (.int p3), .val (.int p4), .val (.int p5), .val (.int (p1 &&& (3 : Int32))), .val (.int (p2 &&& (31 : Int32))), .val (.ref s_ETHERNET), .val (.int (14 : Int32)), .val (.int (12 : Int32)), .val (.ref b4), .val (.int (f1 (14 : Int32) (12 : Int32) (p2 &&& (31 : Int32)) (m0_20_0 p2 p3 p4 p5))), .unset, .val (.int (((p3 &&& (255 : Int32)) <<< ((8 : Int32) &&& 31)) ||| (p4 &&& (255 : Int32))))] [])) _
            refine XS.iload X25.here hx rfl (hb hby at_214) rfl ?_
            show Steps p.tables e below (T25.setTop (mkF m 216 #[.val (.int p1), .val (.int p2), .val (.int p3), .val (.int p4), .val (.int p5), .val (.int (p1 &&& (3 : Int32))), .val (.int (p2 &&& (31 : Int32))), .val (.ref s_ETHERNET), .val (.int (14 : Int32)), .val (.int (12 : Int32)), .val (.ref b4), .val (.int (f1 (14 : Int32) (12 : Int32) (p2 &&& (31 : Int32)) (m0_20_0 p2 p3 p4 p5))), .unset, .val (.int (((p3 &&& (255 : Int32)) <<< ((8 : Int32) &&& 31)) ||| (p4 &&& (255 : Int32))))] [(.int (((p3 &&& (255 : Int32)) <<< ((8 : Int32) &&& 31)) ||| (p4 &&& (255 : Int32))))])) _
            refine X25.ldcInt hx hown (mvT hZ (hw _ (List.mem_of_getElem? (i := 16) rfl))) (g := (mkF m 216 #[.val (.int p1), .val (.int p2), .val (.int p3), .val (.int p4), .val (.int p5), .val (.int (p1 &&& (3 : Int32))), .val (.int (p2 &&& (31 : Int32))), .val (.ref s_ETHERNET), .val (.int (14 : Int32)), .val (.int (12 : Int32)), .val (.ref b4), .val (.int (f1 (14 : Int32) (12 : Int32) (p2 &&& (31 : Int32)) (m0_20_0 p2 p3 p4 p5))), .unset, .val (.int (((p3 &&& (255 : Int32)) <<< ((8 : Int32) &&& 31)) ||| (p4 &&& (255 : Int32))))] [(.int (((p3 &&& (255 : Int32)) <<< ((8 : Int32) &&& 31)) ||| (p4 &&& (255 : Int32))))])) rfl (hb hby at_216) _ ?_
            exact k)
          by_cases hc32 : (((p3 &&& (255 : Int32)) <<< ((8 : Int32) &&& 31)) ||| (p4 &&& (255 : Int32))) = (34525 : Int32)
          · rw [show (m0_27_0 p2 p3 p4) = (6 : Int32) from by first | (rw [m0_27_0, if_pos hc28, if_neg hc30, if_pos hc32]; done) | (simp only [m0_27_0, if_pos hc28, if_neg hc30, if_pos hc32]; done) | rfl] at k
            rw [show (m0_27_1 p2 p3 p4) = .val (.int (((p3 &&& (255 : Int32)) <<< ((8 : Int32) &&& 31)) ||| (p4 &&& (255 : Int32)))) from by first | (rw [m0_27_1, if_pos hc28]; done) | (simp only [m0_27_1, if_pos hc28]; done) | rfl] at k
            refine pre31 t ?_
            show Steps p.tables e below (T25.setTop (mkF m 218 #[.val (.int p1), .val (.int p2), .val (.int p3), .val (.int p4), .val (.int p5), .val (.int (p1 &&& (3 : Int32))), .val (.int (p2 &&& (31 : Int32))), .val (.ref s_ETHERNET), .val (.int (14 : Int32)), .val (.int (12 : Int32)), .val (.ref b4), .val (.int (f1 (14 : Int32) (12 : Int32) (p2 &&& (31 : Int32)) (m0_20_0 p2 p3 p4 p5))), .unset, .val (.int (((p3 &&& (255 : Int32)) <<< ((8 : Int32) &&& 31)) ||| (p4 &&& (255 : Int32))))] [(.int (34525 : Int32)), (.int (((p3 &&& (255 : Int32)) <<< ((8 : Int32) &&& 31)) ||| (p4 &&& (255 : Int32))))])) _
            refine XS.icmpNo X25.here hx rfl (hb hby at_218) rfl (teq hc32).2 ?_
            show Steps p.tables e below (T25.setTop (mkF m 221 #[.val (.int p1), .val (.int p2), .val (.int p3), .val (.int p4), .val (.int p5), .val (.int (p1 &&& (3 : Int32))), .val (.int (p2 &&& (31 : Int32))), .val (.ref s_ETHERNET), .val (.int (14 : Int32)), .val (.int (12 : Int32)), .val (.ref b4), .val (.int (f1 (14 : Int32) (12 : Int32) (p2 &&& (31 : Int32)) (m0_20_0 p2 p3 p4 p5))), .unset, .val (.int (((p3 &&& (255 : Int32)) <<< ((8 : Int32) &&& 31)) ||| (p4 &&& (255 : Int32))))] [])) _
            refine XS.bipush X25.here hx rfl (hb hby at_221) ?_
            show Steps p.tables e below (T25.setTop (mkF m 223 #[.val (.int p1), .val (.int p2), .val (.int p3), .val (.int p4), .val (.int p5), .val (.int (p1 &&& (3 : Int32))), .val (.int (p2 &&& (31 : Int32))), .val (.ref s_ETHERNET), .val (.int (14 : Int32)), .val (.int (12 : Int32)), .val (.ref b4), .val (.int (f1 (14 : Int32) (12 : Int32) (p2 &&& (31 : Int32)) (m0_20_0 p2 p3 p4 p5))), .unset, .val (.int (((p3 &&& (255 : Int32)) <<< ((8 : Int32) &&& 31)) ||| (p4 &&& (255 : Int32))))] [(.int (6 : Int32))])) _
            refine XS.istore X25.here hx rfl (hb hby at_223) rfl (l' := #[.val (.int p1), .val (.int p2), .val (.int p3), .val (.int p4), .val (.int p5), .val (.int (p1 &&& (3 : Int32))), .val (.int (p2 &&& (31 : Int32))), .val (.ref s_ETHERNET), .val (.int (14 : Int32)), .val (.int (12 : Int32)), .val (.ref b4), .val (.int (f1 (14 : Int32) (12 : Int32) (p2 &&& (31 : Int32)) (m0_20_0 p2 p3 p4 p5))), .val (.int (6 : Int32)), .val (.int (((p3 &&& (255 : Int32)) <<< ((8 : Int32) &&& 31)) ||| (p4 &&& (255 : Int32))))]) rfl ?_
            show Steps p.tables e below (T25.setTop (mkF m 225 #[.val (.int p1), .val (.int p2), .val (.int p3), .val (.int p4), .val (.int p5), .val (.int (p1 &&& (3 : Int32))), .val (.int (p2 &&& (31 : Int32))), .val (.ref s_ETHERNET), .val (.int (14 : Int32)), .val (.int (12 : Int32)), .val (.ref b4), .val (.int (f1 (14 : Int32) (12 : Int32) (p2 &&& (31 : Int32)) (m0_20_0 p2 p3 p4 p5))), .val (.int (6 : Int32)), .val (.int (((p3 &&& (255 : Int32)) <<< ((8 : Int32) &&& 31)) ||| (p4 &&& (255 : Int32))))] [])) _
            refine XS.goto X25.here hx rfl (pc0 := 225) (pc' := 231) rfl (hb hby at_225) (by decide) (by decide) ?_
            exact k
          · rw [show (m0_27_0 p2 p3 p4) = (0 : Int32) from by first | (rw [m0_27_0, if_pos hc28, if_neg hc30, if_neg hc32]; done) | (simp only [m0_27_0, if_pos hc28, if_neg hc30, if_neg hc32]; done) | rfl] at k
            rw [show (m0_27_1 p2 p3 p4) = .val (.int (((p3 &&& (255 : Int32)) <<< ((8 : Int32) &&& 31)) ||| (p4 &&& (255 : Int32)))) from by first | (rw [m0_27_1, if_pos hc28]; done) | (simp only [m0_27_1, if_pos hc28]; done) | rfl] at k
            refine pre31 t ?_
            show Steps p.tables e below (T25.setTop (mkF m 218 #[.val (.int p1), .val (.int p2), .val (.int p3), .val (.int p4), .val (.int p5), .val (.int (p1 &&& (3 : Int32))), .val (.int (p2 &&& (31 : Int32))), .val (.ref s_ETHERNET), .val (.int (14 : Int32)), .val (.int (12 : Int32)), .val (.ref b4), .val (.int (f1 (14 : Int32) (12 : Int32) (p2 &&& (31 : Int32)) (m0_20_0 p2 p3 p4 p5))), .unset, .val (.int (((p3 &&& (255 : Int32)) <<< ((8 : Int32) &&& 31)) ||| (p4 &&& (255 : Int32))))] [(.int (34525 : Int32)), (.int (((p3 &&& (255 : Int32)) <<< ((8 : Int32) &&& 31)) ||| (p4 &&& (255 : Int32))))])) _
            refine XS.icmpYes X25.here hx rfl (pc0 := 218) (pc' := 228) rfl (hb hby at_218) rfl (feq hc32).2 (by decide) (by decide) ?_
            show Steps p.tables e below (T25.setTop (mkF m 228 #[.val (.int p1), .val (.int p2), .val (.int p3), .val (.int p4), .val (.int p5), .val (.int (p1 &&& (3 : Int32))), .val (.int (p2 &&& (31 : Int32))), .val (.ref s_ETHERNET), .val (.int (14 : Int32)), .val (.int (12 : Int32)), .val (.ref b4), .val (.int (f1 (14 : Int32) (12 : Int32) (p2 &&& (31 : Int32)) (m0_20_0 p2 p3 p4 p5))), .unset, .val (.int (((p3 &&& (255 : Int32)) <<< ((8 : Int32) &&& 31)) ||| (p4 &&& (255 : Int32))))] [])) _
            refine XS.iconst X25.here hx rfl (hb hby at_228) ?_
            show Steps p.tables e below (T25.setTop (mkF m 229 #[.val (.int p1), .val (.int p2), .val (.int p3), .val (.int p4), .val (.int p5), .val (.int (p1 &&& (3 : Int32))), .val (.int (p2 &&& (31 : Int32))), .val (.ref s_ETHERNET), .val (.int (14 : Int32)), .val (.int (12 : Int32)), .val (.ref b4), .val (.int (f1 (14 : Int32) (12 : Int32) (p2 &&& (31 : Int32)) (m0_20_0 p2 p3 p4 p5))), .unset, .val (.int (((p3 &&& (255 : Int32)) <<< ((8 : Int32) &&& 31)) ||| (p4 &&& (255 : Int32))))] [(.int (0 : Int32))])) _
            refine XS.istore X25.here hx rfl (hb hby at_229) rfl (l' := #[.val (.int p1), .val (.int p2), .val (.int p3), .val (.int p4), .val (.int p5), .val (.int (p1 &&& (3 : Int32))), .val (.int (p2 &&& (31 : Int32))), .val (.ref s_ETHERNET), .val (.int (14 : Int32)), .val (.int (12 : Int32)), .val (.ref b4), .val (.int (f1 (14 : Int32) (12 : Int32) (p2 &&& (31 : Int32)) (m0_20_0 p2 p3 p4 p5))), .val (.int (0 : Int32)), .val (.int (((p3 &&& (255 : Int32)) <<< ((8 : Int32) &&& 31)) ||| (p4 &&& (255 : Int32))))]) rfl ?_
            exact k
      · rw [show (m0_27_0 p2 p3 p4) = (0 : Int32) from by first | (rw [m0_27_0, if_neg hc28]; done) | (simp only [m0_27_0, if_neg hc28]; done) | rfl] at k
        rw [show (m0_27_1 p2 p3 p4) = .unset from by first | (rw [m0_27_1, if_neg hc28]; done) | (simp only [m0_27_1, if_neg hc28]; done) | rfl] at k
        refine pre26 t ?_
        show Steps p.tables e below (T25.setTop (mkF m 157 #[.val (.int p1), .val (.int p2), .val (.int p3), .val (.int p4), .val (.int p5), .val (.int (p1 &&& (3 : Int32))), .val (.int (p2 &&& (31 : Int32))), .val (.ref s_ETHERNET), .val (.int (14 : Int32)), .val (.int (12 : Int32)), .val (.ref b4), .val (.int (f1 (14 : Int32) (12 : Int32) (p2 &&& (31 : Int32)) (m0_20_0 p2 p3 p4 p5))), .unset, .unset] [(.int (14 : Int32)), (.int (p2 &&& (31 : Int32)))])) _
        refine XS.icmpNo X25.here hx rfl (hb hby at_157) rfl (flt hc28).2.2.1 ?_
        show Steps p.tables e below (T25.setTop (mkF m 160 #[.val (.int p1), .val (.int p2), .val (.int p3), .val (.int p4), .val (.int p5), .val (.int (p1 &&& (3 : Int32))), .val (.int (p2 &&& (31 : Int32))), .val (.ref s_ETHERNET), .val (.int (14 : Int32)), .val (.int (12 : Int32)), .val (.ref b4), .val (.int (f1 (14 : Int32) (12 : Int32) (p2 &&& (31 : Int32)) (m0_20_0 p2 p3 p4 p5))), .unset, .unset] [])) _
        refine XS.iconst X25.here hx rfl (hb hby at_160) ?_
        show Steps p.tables e below (T25.setTop (mkF m 161 #[.val (.int p1), .val (.int p2), .val (.int p3), .val (.int p4), .val (.int p5), .val (.int (p1 &&& (3 : Int32))), .val (.int (p2 &&& (31 : Int32))), .val (.ref s_ETHERNET), .val (.int (14 : Int32)), .val (.int (12 : Int32)), .val (.ref b4), .val (.int (f1 (14 : Int32) (12 : Int32) (p2 &&& (31 : Int32)) (m0_20_0 p2 p3 p4 p5))), .unset, .unset] [(.int (0 : Int32))])) _
        refine XS.istore X25.here hx rfl (hb hby at_161) rfl (l' := #[.val (.int p1), .val (.int p2), .val (.int p3), .val (.int p4), .val (.int p5), .val (.int (p1 &&& (3 : Int32))), .val (.int (p2 &&& (31 : Int32))), .val (.ref s_ETHERNET), .val (.int (14 : Int32)), .val (.int (12 : Int32)), .val (.ref b4), .val (.int (f1 (14 : Int32) (12 : Int32) (p2 &&& (31 : Int32)) (m0_20_0 p2 p3 p4 p5))), .val (.int (0 : Int32)), .unset]) rfl ?_
        show Steps p.tables e below (T25.setTop (mkF m 163 #[.val (.int p1), .val (.int p2), .val (.int p3), .val (.int p4), .val (.int p5), .val (.int (p1 &&& (3 : Int32))), .val (.int (p2 &&& (31 : Int32))), .val (.ref s_ETHERNET), .val (.int (14 : Int32)), .val (.int (12 : Int32)), .val (.ref b4), .val (.int (f1 (14 : Int32) (12 : Int32) (p2 &&& (31 : Int32)) (m0_20_0 p2 p3 p4 p5))), .val (.int (0 : Int32)), .unset] [])) _
        refine XS.goto X25.here hx rfl (pc0 := 163) (pc' := 231) rfl (hb hby at_163) (by decide) (by decide) ?_
        exact k
    have pre33 : ∀ t, Steps p.tables e below (T25.setTop (mkF m 235 #[.val (.int p1), .val (.int p2), .val (.int p3), .val (.int p4), .val (.int p5), .val (.int (p1 &&& (3 : Int32))), .val (.int (p2 &&& (31 : Int32))), .val (.ref s_ETHERNET), .val (.int (14 : Int32)), .val (.int (12 : Int32)), .val (.ref b4), .val (.int (f1 (14 : Int32) (12 : Int32) (p2 &&& (31 : Int32)) (m0_20_0 p2 p3 p4 p5))), .val (.int (m0_27_0 p2 p3 p4)), (m0_27_1 p2 p3 p4)] [(.int (m0_27_0 p2 p3 p4)), (.int (f1 (14 : Int32) (12 : Int32) (p2 &&& (31 : Int32)) (m0_20_0 p2 p3 p4 p5)))])) t → Steps p.tables e below (s₁.setTop (entryFrame m #[(.int p1), (.int p2), (.int p3), (.int p4), (.int p5)] maxLocals)) t := fun t k => pre27 t (by
      show Steps p.tables e below (T25.setTop (mkF m 231 #[.val (.int p1), .val (.int p2), .val (.int p3), .val (.int p4), .val (.int p5), .val (.int (p1 &&& (3 : Int32))), .val (.int (p2 &&& (31 : Int32))), .val (.ref s_ETHERNET), .val (.int (14 : Int32)), .val (.int (12 : Int32)), .val (.ref b4), .val (.int (f1 (14 : Int32) (12 : Int32) (p2 &&& (31 : Int32)) (m0_20_0 p2 p3 p4 p5))), .val (.int (m0_27_0 p2 p3 p4)), (m0_27_1 p2 p3 p4)] [])) _
      refine XS.iload X25.here hx rfl (hb hby at_231) rfl ?_
      show Steps p.tables e below (T25.setTop (mkF m 233 #[.val (.int p1), .val (.int p2), .val (.int p3), .val (.int p4), .val (.int p5), .val (.int (p1 &&& (3 : Int32))), .val (.int (p2 &&& (31 : Int32))), .val (.ref s_ETHERNET), .val (.int (14 : Int32)), .val (.int (12 : Int32)), .val (.ref b4), .val (.int (f1 (14 : Int32) (12 : Int32) (p2 &&& (31 : Int32)) (m0_20_0 p2 p3 p4 p5))), .val (.int (m0_27_0 p2 p3 p4)), (m0_27_1 p2 p3 p4)] [(.int (f1 (14 : Int32) (12 : Int32) (p2 &&& (31 : Int32)) (m0_20_0 p2 p3 p4 p5)))])) _
      refine XS.iload X25.here hx rfl (hb hby at_233) rfl ?_
      exact k)
    by_cases hc34 : (f1 (14 : Int32) (12 : Int32) (p2 &&& (31 : Int32)) (m0_20_0 p2 p3 p4 p5)) = (m0_27_0 p2 p3 p4)
    · obtain ⟨fs, hr, hrun, hended, hW, hsame⟩ := X25.leave (v := some (.int (1 : Int32))) (fun h => by rw [Bd.returns] at h; cases h)
      refine ⟨_, _, pre33 _ ?_, hrun, hended, _, _, rfl, ?_, ⟨_, rfl⟩, hW, hsame.mono (by decide) (by decide)⟩
      · show Steps p.tables e below (T25.setTop (mkF m 235 #[.val (.int p1), .val (.int p2), .val (.int p3), .val (.int p4), .val (.int p5), .val (.int (p1 &&& (3 : Int32))), .val (.int (p2 &&& (31 : Int32))), .val (.ref s_ETHERNET), .val (.int (14 : Int32)), .val (.int (12 : Int32)), .val (.ref b4), .val (.int (f1 (14 : Int32) (12 : Int32) (p2 &&& (31 : Int32)) (m0_20_0 p2 p3 p4 p5))), .val (.int (m0_27_0 p2 p3 p4)), (m0_27_1 p2 p3 p4)] [(.int (m0_27_0 p2 p3 p4)), (.int (f1 (14 : Int32) (12 : Int32) (p2 &&& (31 : Int32)) (m0_20_0 p2 p3 p4 p5)))])) _
        refine XS.icmpNo X25.here hx rfl (hb hby at_235) rfl (teq hc34).2 ?_
        show Steps p.tables e below (T25.setTop (mkF m 238 #[.val (.int p1), .val (.int p2), .val (.int p3), .val (.int p4), .val (.int p5), .val (.int (p1 &&& (3 : Int32))), .val (.int (p2 &&& (31 : Int32))), .val (.ref s_ETHERNET), .val (.int (14 : Int32)), .val (.int (12 : Int32)), .val (.ref b4), .val (.int (f1 (14 : Int32) (12 : Int32) (p2 &&& (31 : Int32)) (m0_20_0 p2 p3 p4 p5))), .val (.int (m0_27_0 p2 p3 p4)), (m0_27_1 p2 p3 p4)] [])) _
        refine XS.iconst X25.here hx rfl (hb hby at_238) ?_
        show Steps p.tables e below (T25.setTop (mkF m 239 #[.val (.int p1), .val (.int p2), .val (.int p3), .val (.int p4), .val (.int p5), .val (.int (p1 &&& (3 : Int32))), .val (.int (p2 &&& (31 : Int32))), .val (.ref s_ETHERNET), .val (.int (14 : Int32)), .val (.int (12 : Int32)), .val (.ref b4), .val (.int (f1 (14 : Int32) (12 : Int32) (p2 &&& (31 : Int32)) (m0_20_0 p2 p3 p4 p5))), .val (.int (m0_27_0 p2 p3 p4)), (m0_27_1 p2 p3 p4)] [(.int (1 : Int32))])) _
        refine XS.goto X25.here hx rfl (pc0 := 239) (pc' := 243) rfl (hb hby at_239) (by decide) (by decide) ?_
        show Steps p.tables e below (T25.setTop (mkF m 243 #[.val (.int p1), .val (.int p2), .val (.int p3), .val (.int p4), .val (.int p5), .val (.int (p1 &&& (3 : Int32))), .val (.int (p2 &&& (31 : Int32))), .val (.ref s_ETHERNET), .val (.int (14 : Int32)), .val (.int (12 : Int32)), .val (.ref b4), .val (.int (f1 (14 : Int32) (12 : Int32) (p2 &&& (31 : Int32)) (m0_20_0 p2 p3 p4 p5))), .val (.int (m0_27_0 p2 p3 p4)), (m0_27_1 p2 p3 p4)] [(.int (1 : Int32))])) _
        exact retN X25 hx (t := .boolean) Bd.returns (by simp) (hb hby at_243) hr
      · show Q0 Z p1 p2 p3 p4 p5 s_ETHERNET s_LINUX_SLL2 s_LINUX_SLL s_RAW h0 n0 _ T25.heap _
        rw [e25]
        exact ⟨by rw [show (f0 p1 p2 p3 p4 p5) = (1 : Int32) from by first | (rw [f0, if_pos hc2, if_pos hc34]; done) | (simp only [f0, if_pos hc2, if_pos hc34]; done) | rfl], N25⟩
    · obtain ⟨fs, hr, hrun, hended, hW, hsame⟩ := X25.leave (v := some (.int (0 : Int32))) (fun h => by rw [Bd.returns] at h; cases h)
      refine ⟨_, _, pre33 _ ?_, hrun, hended, _, _, rfl, ?_, ⟨_, rfl⟩, hW, hsame.mono (by decide) (by decide)⟩
      · show Steps p.tables e below (T25.setTop (mkF m 235 #[.val (.int p1), .val (.int p2), .val (.int p3), .val (.int p4), .val (.int p5), .val (.int (p1 &&& (3 : Int32))), .val (.int (p2 &&& (31 : Int32))), .val (.ref s_ETHERNET), .val (.int (14 : Int32)), .val (.int (12 : Int32)), .val (.ref b4), .val (.int (f1 (14 : Int32) (12 : Int32) (p2 &&& (31 : Int32)) (m0_20_0 p2 p3 p4 p5))), .val (.int (m0_27_0 p2 p3 p4)), (m0_27_1 p2 p3 p4)] [(.int (m0_27_0 p2 p3 p4)), (.int (f1 (14 : Int32) (12 : Int32) (p2 &&& (31 : Int32)) (m0_20_0 p2 p3 p4 p5)))])) _
        refine XS.icmpYes X25.here hx rfl (pc0 := 235) (pc' := 242) rfl (hb hby at_235) rfl (feq hc34).2 (by decide) (by decide) ?_
        show Steps p.tables e below (T25.setTop (mkF m 242 #[.val (.int p1), .val (.int p2), .val (.int p3), .val (.int p4), .val (.int p5), .val (.int (p1 &&& (3 : Int32))), .val (.int (p2 &&& (31 : Int32))), .val (.ref s_ETHERNET), .val (.int (14 : Int32)), .val (.int (12 : Int32)), .val (.ref b4), .val (.int (f1 (14 : Int32) (12 : Int32) (p2 &&& (31 : Int32)) (m0_20_0 p2 p3 p4 p5))), .val (.int (m0_27_0 p2 p3 p4)), (m0_27_1 p2 p3 p4)] [])) _
        refine XS.iconst X25.here hx rfl (hb hby at_242) ?_
        show Steps p.tables e below (T25.setTop (mkF m 243 #[.val (.int p1), .val (.int p2), .val (.int p3), .val (.int p4), .val (.int p5), .val (.int (p1 &&& (3 : Int32))), .val (.int (p2 &&& (31 : Int32))), .val (.ref s_ETHERNET), .val (.int (14 : Int32)), .val (.int (12 : Int32)), .val (.ref b4), .val (.int (f1 (14 : Int32) (12 : Int32) (p2 &&& (31 : Int32)) (m0_20_0 p2 p3 p4 p5))), .val (.int (m0_27_0 p2 p3 p4)), (m0_27_1 p2 p3 p4)] [(.int (0 : Int32))])) _
        exact retN X25 hx (t := .boolean) Bd.returns (by simp) (hb hby at_243) hr
      · show Q0 Z p1 p2 p3 p4 p5 s_ETHERNET s_LINUX_SLL2 s_LINUX_SLL s_RAW h0 n0 _ T25.heap _
        rw [e25]
        exact ⟨by rw [show (f0 p1 p2 p3 p4 p5) = (0 : Int32) from by first | (rw [f0, if_pos hc2, if_neg hc34]; done) | (simp only [f0, if_pos hc2, if_neg hc34]; done) | rfl], N25⟩
  · have pre37 : ∀ t, Steps p.tables e below (s₁.setTop (mkF m 35 #[.val (.int p1), .val (.int p2), .val (.int p3), .val (.int p4), .val (.int p5), .val (.int (p1 &&& (3 : Int32))), .val (.int (p2 &&& (31 : Int32))), .unset, .unset, .unset, .unset, .unset, .unset, .unset] [(.int (1 : Int32)), (.int (p1 &&& (3 : Int32)))])) t → Steps p.tables e below (s₁.setTop (entryFrame m #[(.int p1), (.int p2), (.int p3), (.int p4), (.int p5)] maxLocals)) t := fun t k => pre1 t (by
      show Steps p.tables e below (s₁.setTop (mkF m 13 #[.val (.int p1), .val (.int p2), .val (.int p3), .val (.int p4), .val (.int p5), .val (.int (p1 &&& (3 : Int32))), .val (.int (p2 &&& (31 : Int32))), .unset, .unset, .unset, .unset, .unset, .unset, .unset] [(.int (p1 &&& (3 : Int32)))])) _
      refine XS.ifYes X0.here hx rfl (pc0 := 13) (pc' := 32) rfl (hb hby at_13) rfl ((if0 _ _).trans (feq hc2).2) (by decide) (by decide) ?_
      show Steps p.tables e below (s₁.setTop (mkF m 32 #[.val (.int p1), .val (.int p2), .val (.int p3), .val (.int p4), .val (.int p5), .val (.int (p1 &&& (3 : Int32))), .val (.int (p2 &&& (31 : Int32))), .unset, .unset, .unset, .unset, .unset, .unset, .unset] [])) _
      refine XS.iload X0.here hx rfl (hb hby at_32) rfl ?_
      show Steps p.tables e below (s₁.setTop (mkF m 34 #[.val (.int p1), .val (.int p2), .val (.int p3), .val (.int p4), .val (.int p5), .val (.int (p1 &&& (3 : Int32))), .val (.int (p2 &&& (31 : Int32))), .unset, .unset, .unset, .unset, .unset, .unset, .unset] [(.int (p1 &&& (3 : Int32)))])) _
      refine XS.iconst X0.here hx rfl (hb hby at_34) ?_
      exact k)
    by_cases hc38 : (p1 &&& (3 : Int32)) = (1 : Int32)
    · obtain ⟨T39, X39, e39, st39⟩ := getS2 X0 hx hZ hown (host := "") (Or.inl (hw _ (List.mem_of_getElem? (i := 19) rfl))) Via.refl e0 (zS_RAW.ext O0.2) (g := (mkF m 38 #[.val (.int p1), .val (.int p2), .val (.int p3), .val (.int p4), .val (.int p5), .val (.int (p1 &&& (3 : Int32))), .val (.int (p2 &&& (31 : Int32))), .unset, .unset, .unset, .unset, .unset, .unset, .unset] [])) rfl (hb hby at_38)
      obtain ⟨T40, h40, k40, X40, e40, E40, A40, st40⟩ := newP X39 hx hZ (hw _ (List.mem_of_getElem? (i := 3) rfl)) e39 (g := (mkF m 88 #[.val (.int p1), .val (.int p2), .val (.int p3), .val (.int p4), .val (.int p5), .val (.int (p1 &&& (3 : Int32))), .val (.int (p2 &&& (31 : Int32))), .val (.ref s_RAW), .val (.int (0 : Int32)), .val (.int (-1 : Int32)), .unset, .unset, .unset, .unset] [(.int (p2 &&& (31 : Int32)))])) rfl (hb hby at_88) rfl (own_nn31 _) (cap := 31) (own_le31 _) (by decide) (by decide) (by decide)
      obtain ⟨b40, g40⟩ : ∃ z, z = h0.size := ⟨_, rfl⟩
      rw [← g40] at A40 st40
      have ne41 : s_ETHERNET ≠ b40 := Nat.ne_of_lt (Nat.lt_of_lt_of_le (zE_s_ETHERNET.ext O0.2).lt (Nat.le_of_eq g40.symm))
      have ne42 : s_LINUX_SLL2 ≠ b40 := Nat.ne_of_lt (Nat.lt_of_lt_of_le (zE_s_LINUX_SLL2.ext O0.2).lt (Nat.le_of_eq g40.symm))
      have ne43 : s_LINUX_SLL ≠ b40 := Nat.ne_of_lt (Nat.lt_of_lt_of_le (zE_s_LINUX_SLL.ext O0.2).lt (Nat.le_of_eq g40.symm))
      have ne44 : s_RAW ≠ b40 := Nat.ne_of_lt (Nat.lt_of_lt_of_le (zE_s_RAW.ext O0.2).lt (Nat.le_of_eq g40.symm))
      have g_b40 : n0 ≤ b40 := Nat.le_trans Z0 (Nat.le_of_eq g40.symm)
      have sz_b40 : h0.size ≤ b40 := Nat.le_trans (Keep.refl h0 []).1 (Nat.le_of_eq g40.symm)
      have K40 : Keep h0 h40 [] := (Keep.refl h0 []).ext E40
      have V_b40 : AI Z h40 b40 .byte (p2 &&& (31 : Int32)) (fun _ => 0) := AI.new A40 (own_nn31 _) rfl
      have pre45 : ∀ t, Steps p.tables e below (T40.setTop (mkF m 133 #[.val (.int p1), .val (.int p2), .val (.int p3), .val (.int p4), .val (.int p5), .val (.int (p1 &&& (3 : Int32))), .val (.int (p2 &&& (31 : Int32))), .val (.ref s_RAW), .val (.int (0 : Int32)), .val (.int (-1 : Int32)), .val (.ref b40), .unset, .unset, .unset] [(.int (p2 &&& (31 : Int32))), (.int (0 : Int32))])) t → Steps p.tables e below (s₁.setTop (entryFrame m #[(.int p1), (.int p2), (.int p3), (.int p4), (.int p5)] maxLocals)) t := fun t k => pre37 t (by
        show Steps p.tables e below (s₁.setTop (mkF m 35 #[.val (.int p1), .val (.int p2), .val (.int p3), .val (.int p4), .val (.int p5), .val (.int (p1 &&& (3 : Int32))), .val (.int (p2 &&& (31 : Int32))), .unset, .unset, .unset, .unset, .unset, .unset, .unset] [(.int (1 : Int32)), (.int (p1 &&& (3 : Int32)))])) _
        refine XS.icmpNo X0.here hx rfl (hb hby at_35) rfl (teq hc38).2 ?_
        show Steps p.tables e below (s₁.setTop (mkF m 38 #[.val (.int p1), .val (.int p2), .val (.int p3), .val (.int p4), .val (.int p5), .val (.int (p1 &&& (3 : Int32))), .val (.int (p2 &&& (31 : Int32))), .unset, .unset, .unset, .unset, .unset, .unset, .unset] [])) _
        refine st39 _ ?_
        show Steps p.tables e below (T39.setTop (mkF m 41 #[.val (.int p1), .val (.int p2), .val (.int p3), .val (.int p4), .val (.int p5), .val (.int (p1 &&& (3 : Int32))), .val (.int (p2 &&& (31 : Int32))), .unset, .unset, .unset, .unset, .unset, .unset, .unset] [(.ref s_RAW)])) _
        refine XS.astore X39.here hx rfl (hb hby at_41) rfl rfl (l' := #[.val (.int p1), .val (.int p2), .val (.int p3), .val (.int p4), .val (.int p5), .val (.int (p1 &&& (3 : Int32))), .val (.int (p2 &&& (31 : Int32))), .val (.ref s_RAW), .unset, .unset, .unset, .unset, .unset, .unset]) rfl ?_
        show Steps p.tables e below (T39.setTop (mkF m 43 #[.val (.int p1), .val (.int p2), .val (.int p3), .val (.int p4), .val (.int p5), .val (.int (p1 &&& (3 : Int32))), .val (.int (p2 &&& (31 : Int32))), .val (.ref s_RAW), .unset, .unset, .unset, .unset, .unset, .unset] [])) _
        refine XS.iconst X39.here hx rfl (hb hby at_43) ?_
        show Steps p.tables e below (T39.setTop (mkF m 44 #[.val (.int p1), .val (.int p2), .val (.int p3), .val (.int p4), .val (.int p5), .val (.int (p1 &&& (3 : Int32))), .val (.int (p2 &&& (31 : Int32))), .val (.ref s_RAW), .unset, .unset, .unset, .unset, .unset, .unset] [(.int (0 : Int32))])) _
        refine XS.istore X39.here hx rfl (hb hby at_44) rfl (l' := #[.val (.int p1), .val (.int p2), .val (.int p3), .val (.int p4), .val (.int p5), .val (.int (p1 &&& (3 : Int32))), .val (.int (p2 &&& (31 : Int32))), .val (.ref s_RAW), .val (.int (0 : Int32)), .unset, .unset, .unset, .unset, .unset]) rfl ?_
        show Steps p.tables e below (T39.setTop (mkF m 46 #[.val (.int p1), .val (.int p2), .val (.int p3), .val (.int p4), .val (.int p5), .val (.int (p1 &&& (3 : Int32))), .val (.int (p2 &&& (31 : Int32))), .val (.ref s_RAW), .val (.int (0 : Int32)), .unset, .unset, .unset, .unset, .unset] [])) _
        refine XS.iconst X39.here hx rfl (hb hby at_46) ?_
        show Steps p.tables e below (T39.setTop (mkF m 47 #[.val (.int p1), .val (.int p2), .val (.int p3), .val (.int p4), .val (.int p5), .val (.int (p1 &&& (3 : Int32))), .val (.int (p2 &&& (31 : Int32))), .val (.ref s_RAW), .val (.int (0 : Int32)), .unset, .unset, .unset, .unset, .unset] [(.int (-1 : Int32))])) _
        refine XS.istore X39.here hx rfl (hb hby at_47) rfl (l' := #[.val (.int p1), .val (.int p2), .val (.int p3), .val (.int p4), .val (.int p5), .val (.int (p1 &&& (3 : Int32))), .val (.int (p2 &&& (31 : Int32))), .val (.ref s_RAW), .val (.int (0 : Int32)), .val (.int (-1 : Int32)), .unset, .unset, .unset, .unset]) rfl ?_
        show Steps p.tables e below (T39.setTop (mkF m 49 #[.val (.int p1), .val (.int p2), .val (.int p3), .val (.int p4), .val (.int p5), .val (.int (p1 &&& (3 : Int32))), .val (.int (p2 &&& (31 : Int32))), .val (.ref s_RAW), .val (.int (0 : Int32)), .val (.int (-1 : Int32)), .unset, .unset, .unset, .unset] [])) _
        refine XS.goto X39.here hx rfl (pc0 := 49) (pc' := 86) rfl (hb hby at_49) (by decide) (by decide) ?_
        show Steps p.tables e below (T39.setTop (mkF m 86 #[.val (.int p1), .val (.int p2), .val (.int p3), .val (.int p4), .val (.int p5), .val (.int (p1 &&& (3 : Int32))), .val (.int (p2 &&& (31 : Int32))), .val (.ref s_RAW), .val (.int (0 : Int32)), .val (.int (-1 : Int32)), .unset, .unset, .unset, .unset] [])) _
        refine XS.iload X39.here hx rfl (hb hby at_86) rfl ?_
        show Steps p.tables e below (T39.setTop (mkF m 88 #[.val (.int p1), .val (.int p2), .val (.int p3), .val (.int p4), .val (.int p5), .val (.int (p1 &&& (3 : Int32))), .val (.int (p2 &&& (31 : Int32))), .val (.ref s_RAW), .val (.int (0 : Int32)), .val (.int (-1 : Int32)), .unset, .unset, .unset, .unset] [(.int (p2 &&& (31 : Int32)))])) _
        refine st40 _ ?_
        show Steps p.tables e below (T40.setTop (mkF m 90 #[.val (.int p1), .val (.int p2), .val (.int p3), .val (.int p4), .val (.int p5), .val (.int (p1 &&& (3 : Int32))), .val (.int (p2 &&& (31 : Int32))), .val (.ref s_RAW), .val (.int (0 : Int32)), .val (.int (-1 : Int32)), .unset, .unset, .unset, .unset] [(.ref b40)])) _
        refine XS.astore X40.here hx rfl (hb hby at_90) rfl rfl (l' := #[.val (.int p1), .val (.int p2), .val (.int p3), .val (.int p4), .val (.int p5), .val (.int (p1 &&& (3 : Int32))), .val (.int (p2 &&& (31 : Int32))), .val (.ref s_RAW), .val (.int (0 : Int32)), .val (.int (-1 : Int32)), .val (.ref b40), .unset, .unset, .unset]) rfl ?_
        show Steps p.tables e below (T40.setTop (mkF m 92 #[.val (.int p1), .val (.int p2), .val (.int p3), .val (.int p4), .val (.int p5), .val (.int (p1 &&& (3 : Int32))), .val (.int (p2 &&& (31 : Int32))), .val (.ref s_RAW), .val (.int (0 : Int32)), .val (.int (-1 : Int32)), .val (.ref b40), .unset, .unset, .unset] [])) _
        refine XS.iload X40.here hx rfl (hb hby at_92) rfl ?_
        show Steps p.tables e below (T40.setTop (mkF m 94 #[.val (.int p1), .val (.int p2), .val (.int p3), .val (.int p4), .val (.int p5), .val (.int (p1 &&& (3 : Int32))), .val (.int (p2 &&& (31 : Int32))), .val (.ref s_RAW), .val (.int (0 : Int32)), .val (.int (-1 : Int32)), .val (.ref b40), .unset, .unset, .unset] [(.int (-1 : Int32))])) _
        refine XS.ifYes X40.here hx rfl (pc0 := 94) (pc' := 129) rfl (hb hby at_94) rfl ((if0 _ _).trans (tlt (by decide : (-1 : Int32) < (0 : Int32))).1) (by decide) (by decide) ?_
        show Steps p.tables e below (T40.setTop (mkF m 129 #[.val (.int p1), .val (.int p2), .val (.int p3), .val (.int p4), .val (.int p5), .val (.int (p1 &&& (3 : Int32))), .val (.int (p2 &&& (31 : Int32))), .val (.ref s_RAW), .val (.int (0 : Int32)), .val (.int (-1 : Int32)), .val (.ref b40), .unset, .unset, .unset] [])) _
        refine XS.iload X40.here hx rfl (hb hby at_129) rfl ?_
        show Steps p.tables e below (T40.setTop (mkF m 131 #[.val (.int p1), .val (.int p2), .val (.int p3), .val (.int p4), .val (.int p5), .val (.int (p1 &&& (3 : Int32))), .val (.int (p2 &&& (31 : Int32))), .val (.ref s_RAW), .val (.int (0 : Int32)), .val (.int (-1 : Int32)), .val (.ref b40), .unset, .unset, .unset] [(.int (0 : Int32))])) _
        refine XS.iload X40.here hx rfl (hb hby at_131) rfl ?_
        exact k)
      obtain ⟨T46, locs46, h46, X46, e46, N46, Kj46, P46_0, pre46⟩ : ∃ (T' : State) (locs' : List Loc) (h' : Heap), Stand p l e room_1 s m #[(.int p1), (.int p2), (.int p3), (.int p4), (.int p5)] below meth c T' locs' 1 31 ∧ T'.heap = h' ∧ Fr n0 locs' ∧ Keep h40 h' [b40] ∧ AI Z h' b40 .byte (p2 &&& (31 : Int32)) (m0_46_0 p2 p5) ∧ ∀ t, Steps p.tables e below (T'.setTop (mkF m 144 #[.val (.int p1), .val (.int p2), .val (.int p3), .val (.int p4), .val (.int p5), .val (.int (p1 &&& (3 : Int32))), .val (.int (p2 &&& (31 : Int32))), .val (.ref s_RAW), .val (.int (0 : Int32)), .val (.int (-1 : Int32)), .val (.ref b40), .unset, .unset, .unset] [])) t → Steps p.tables e below (s₁.setTop (entryFrame m #[(.int p1), (.int p2), (.int p3), (.int p4), (.int p5)] maxLocals)) t := by
        by_cases hc47 : (0 : Int32) < (p2 &&& (31 : Int32))
        · obtain ⟨cl48, A48, S48, M48, G48⟩ := id V_b40
          have hin48 : ¬ ((0 : Int32) < 0 ∨ cl48.slots.size ≤ ((0 : Int32)).toNatClampNeg) := inb_of S48 (⟨by decide, hc47⟩)
          obtain ⟨T48, h48, X48, e48, W48, st48⟩ := stB X40 hx hZ e40 A48 (j := (0 : Int32)) hin48 (g := (mkF m 143 #[.val (.int p1), .val (.int p2), .val (.int p3), .val (.int p4), .val (.int p5), .val (.int (p1 &&& (3 : Int32))), .val (.int (p2 &&& (31 : Int32))), .val (.ref s_RAW), .val (.int (0 : Int32)), .val (.int (-1 : Int32)), .val (.ref b40), .unset, .unset, .unset] [(.int (p5.toInt8.toInt32)), (.int (0 : Int32)), (.ref b40)])) rfl rfl (hb hby at_143)
          have V48 : AI Z h48 b40 .byte (p2 &&& (31 : Int32)) (fun i => if i = 0 then ((p5.toInt8.toInt32).toInt8.toInt32) else (fun _ => 0) i) := AI.set A48 S48 M48 G48 W48
          have K48 : Keep h0 h48 [] := K40.wr W48 (Or.inr sz_b40)
          have N48 := Fr.snoc X48 N0 g_b40
          exact ⟨_, _, _, X48, e48, N48, ((Keep.refl _ [b40]).wr W48 (Or.inl (List.mem_of_getElem? (i := 0) rfl))), (by rw [show (m0_46_0 p2 p5) = (fun i => if i = 0 then ((p5.toInt8.toInt32).toInt8.toInt32) else (fun _ => 0) i) from by first | (rw [m0_46_0, if_pos hc47]; done) | (simp only [m0_46_0, if_pos hc47]; done) | rfl]; exact V48), fun t k => pre45 t (by
            show Steps p.tables e below (T40.setTop (mkF m 133 #[.val (.int p1), .val (.int p2), .val (.int p3), .val (.int p4), .val (.int p5), .val (.int (p1 &&& (3 : Int32))), .val (.int (p2 &&& (31 : Int32))), .val (.ref s_RAW), .val (.int (0 : Int32)), .val (.int (-1 : Int32)), .val (.ref b40), .unset, .unset, .unset] [(.int (p2 &&& (31 : Int32))), (.int (0 : Int32))])) _
            refine XS.icmpNo X40.here hx rfl (hb hby at_133) rfl (tlt hc47).2.1 ?_
            show Steps p.tables e below (T40.setTop (mkF m 136 #[.val (.int p1), .val (.int p2), .val (.int p3), .val (.int p4), .val (.int p5), .val (.int (p1 &&& (3 : Int32))), .val (.int (p2 &&& (31 : Int32))), .val (.ref s_RAW), .val (.int (0 : Int32)), .val (.int (-1 : Int32)), .val (.ref b40), .unset, .unset, .unset] [])) _
            refine XS.aload X40.here hx rfl (hb hby at_136) rfl rfl ?_
            show Steps p.tables e below (T40.setTop (mkF m 138 #[.val (.int p1), .val (.int p2), .val (.int p3), .val (.int p4), .val (.int p5), .val (.int (p1 &&& (3 : Int32))), .val (.int (p2 &&& (31 : Int32))), .val (.ref s_RAW), .val (.int (0 : Int32)), .val (.int (-1 : Int32)), .val (.ref b40), .unset, .unset, .unset] [(.ref b40)])) _
            refine XS.iload X40.here hx rfl (hb hby at_138) rfl ?_
            show Steps p.tables e below (T40.setTop (mkF m 140 #[.val (.int p1), .val (.int p2), .val (.int p3), .val (.int p4), .val (.int p5), .val (.int (p1 &&& (3 : Int32))), .val (.int (p2 &&& (31 : Int32))), .val (.ref s_RAW), .val (.int (0 : Int32)), .val (.int (-1 : Int32)), .val (.ref b40), .unset, .unset, .unset] [(.int (0 : Int32)), (.ref b40)])) _
            refine XS.iload X40.here hx rfl (hb hby at_140) rfl ?_
            show Steps p.tables e below (T40.setTop (mkF m 142 #[.val (.int p1), .val (.int p2), .val (.int p3), .val (.int p4), .val (.int p5), .val (.int (p1 &&& (3 : Int32))), .val (.int (p2 &&& (31 : Int32))), .val (.ref s_RAW), .val (.int (0 : Int32)), .val (.int (-1 : Int32)), .val (.ref b40), .unset, .unset, .unset] [(.int p5), (.int (0 : Int32)), (.ref b40)])) _
            refine XS.i2b X40.here hx rfl (hb hby at_142) rfl ?_
            show Steps p.tables e below (T40.setTop (mkF m 143 #[.val (.int p1), .val (.int p2), .val (.int p3), .val (.int p4), .val (.int p5), .val (.int (p1 &&& (3 : Int32))), .val (.int (p2 &&& (31 : Int32))), .val (.ref s_RAW), .val (.int (0 : Int32)), .val (.int (-1 : Int32)), .val (.ref b40), .unset, .unset, .unset] [(.int (p5.toInt8.toInt32)), (.int (0 : Int32)), (.ref b40)])) _
            refine st48 _ ?_
            exact k)⟩
        · exact ⟨_, _, _, X40, e40, N0, (Keep.refl _ [b40]), (by rw [show (m0_46_0 p2 p5) = (fun _ => 0) from by first | (rw [m0_46_0, if_neg hc47]; done) | (simp only [m0_46_0, if_neg hc47]; done) | rfl]; exact V_b40), fun t k => pre45 t (by
            show Steps p.tables e below (T40.setTop (mkF m 133 #[.val (.int p1), .val (.int p2), .val (.int p3), .val (.int p4), .val (.int p5), .val (.int (p1 &&& (3 : Int32))), .val (.int (p2 &&& (31 : Int32))), .val (.ref s_RAW), .val (.int (0 : Int32)), .val (.int (-1 : Int32)), .val (.ref b40), .unset, .unset, .unset] [(.int (p2 &&& (31 : Int32))), (.int (0 : Int32))])) _
            refine XS.icmpYes X40.here hx rfl (pc0 := 133) (pc' := 144) rfl (hb hby at_133) rfl (flt hc47).2.1 (by decide) (by decide) ?_
            exact k)⟩
      have K49 : Keep h0 h46 [] := K40.trans Kj46 (allS (Or.inr sz_b40) all0)
      have O50 := ((O0.ext E40).keep Kj46 (allS g_b40 all0))
      obtain ⟨cq51, kq51, q51a, q51b, q51c⟩ := isOf hZ e46 (zE_s_RAW.ext O50.2)
      obtain ⟨_, _, ⟨T51, L51, k51, n51⟩, -, X51, ⟨Lc51, hQ51, l51, y51, z51⟩, st51⟩ := X46.virtualBack hx (y := (⟨"com/example/waymark/waymark/cli/LinkType", "ipVersion", "([B)I"⟩ : MethodName)) (z := (⟨"com/example/waymark/waymark/cli/LinkType", "ipVersion", "([B)I"⟩ : MethodName)) hown (mvT hZ (hw _ (List.mem_of_getElem? (i := 4) rfl))) (mvT hZ (hw _ (List.mem_of_getElem? (i := 5) rfl))) (notFace_of_selects (args := #[]) (mvT hZ (hw _ (List.mem_of_getElem? (i := 7) rfl)))) (mvT hZ (hw _ (List.mem_of_getElem? (i := 7) rfl))) (mvT hZ (hw _ (List.mem_of_getElem? (i := 6) rfl))) (by decide) (backOf (W := 0) (rm1 l Z a0 hw [] s_RAW b40 (0 : Int32) (-1 : Int32) (p2 &&& (31 : Int32)) (m0_46_0 p2 p5) h46 n0 (Nat.le_trans Z0 K49.1) (zF_s_RAW_headerLength.ext O50.2) (zF_s_RAW_protocolOffset.ext O50.2) P46_0 (by decide : ¬ (0 : Int32) < 0) (by decide : ¬ (-1 : Int32) < 0 → (-1 : Int32) < (0 : Int32) ∧ (-1 : Int32) + (1 : Int32) < (0 : Int32) ∧ ¬ (-1 : Int32) + (1 : Int32) < 0)) hZ (hw _ (List.mem_of_getElem? (i := 8) rfl)) (hw _ (List.mem_of_getElem? (i := 1) rfl)) (by decide) (by decide)) q51a q51c (g := (mkF m 148 #[.val (.int p1), .val (.int p2), .val (.int p3), .val (.int p4), .val (.int p5), .val (.int (p1 &&& (3 : Int32))), .val (.int (p2 &&& (31 : Int32))), .val (.ref s_RAW), .val (.int (0 : Int32)), .val (.int (-1 : Int32)), .val (.ref b40), .unset, .unset, .unset] [(.ref b40), (.ref s_RAW)])) rfl (by rw [hml]; rfl) (Steps.refl _) (argsL := [(.ref b40)]) (rest := []) (lenOf pd_0 rfl) rfl (by show 2 * 0 + _ ≤ _; exact Nat.le_of_eq rfl) (hb hby at_148) (fun _ _ => ⟨rfl, e46, (by decide : 1 + 0 ≤ _), (by decide : 31 + 0 ≤ _)⟩)
      dsimp only [Pt.U, Pt.locs, Pt.cells, Pt.slots] at X51 l51 y51 z51 st51 hQ51
      subst l51 y51 z51
      obtain ⟨rfl, N51q, e51⟩ := hQ51
      have N51 := Fr.app N46 N51q
      have pre52 : ∀ t, Steps p.tables e below (T51.setTop (mkF m 157 #[.val (.int p1), .val (.int p2), .val (.int p3), .val (.int p4), .val (.int p5), .val (.int (p1 &&& (3 : Int32))), .val (.int (p2 &&& (31 : Int32))), .val (.ref s_RAW), .val (.int (0 : Int32)), .val (.int (-1 : Int32)), .val (.ref b40), .val (.int (f1 (0 : Int32) (-1 : Int32) (p2 &&& (31 : Int32)) (m0_46_0 p2 p5))), .unset, .unset] [(.int (0 : Int32)), (.int (p2 &&& (31 : Int32)))])) t → Steps p.tables e below (s₁.setTop (entryFrame m #[(.int p1), (.int p2), (.int p3), (.int p4), (.int p5)] maxLocals)) t := fun t k => pre46 t (by
        show Steps p.tables e below (T46.setTop (mkF m 144 #[.val (.int p1), .val (.int p2), .val (.int p3), .val (.int p4), .val (.int p5), .val (.int (p1 &&& (3 : Int32))), .val (.int (p2 &&& (31 : Int32))), .val (.ref s_RAW), .val (.int (0 : Int32)), .val (.int (-1 : Int32)), .val (.ref b40), .unset, .unset, .unset] [])) _
        refine XS.aload X46.here hx rfl (hb hby at_144) rfl rfl ?_
        show Steps p.tables e below (T46.setTop (mkF m 146 #[.val (.int p1), .val (.int p2), .val (.int p3), .val (.int p4), .val (.int p5), .val (.int (p1 &&& (3 : Int32))), .val (.int (p2 &&& (31 : Int32))), .val (.ref s_RAW), .val (.int (0 : Int32)), .val (.int (-1 : Int32)), .val (.ref b40), .unset, .unset, .unset] [(.ref s_RAW)])) _
        refine XS.aload X46.here hx rfl (hb hby at_146) rfl rfl ?_
        show Steps p.tables e below (T46.setTop (mkF m 148 #[.val (.int p1), .val (.int p2), .val (.int p3), .val (.int p4), .val (.int p5), .val (.int (p1 &&& (3 : Int32))), .val (.int (p2 &&& (31 : Int32))), .val (.ref s_RAW), .val (.int (0 : Int32)), .val (.int (-1 : Int32)), .val (.ref b40), .unset, .unset, .unset] [(.ref b40), (.ref s_RAW)])) _
        refine st51.trans ?_
        show Steps p.tables e below (T51.setTop (mkF m 151 #[.val (.int p1), .val (.int p2), .val (.int p3), .val (.int p4), .val (.int p5), .val (.int (p1 &&& (3 : Int32))), .val (.int (p2 &&& (31 : Int32))), .val (.ref s_RAW), .val (.int (0 : Int32)), .val (.int (-1 : Int32)), .val (.ref b40), .unset, .unset, .unset] [(.int (f1 (0 : Int32) (-1 : Int32) (p2 &&& (31 : Int32)) (m0_46_0 p2 p5)))])) _
        refine XS.istore X51.here hx rfl (hb hby at_151) rfl (l' := #[.val (.int p1), .val (.int p2), .val (.int p3), .val (.int p4), .val (.int p5), .val (.int (p1 &&& (3 : Int32))), .val (.int (p2 &&& (31 : Int32))), .val (.ref s_RAW), .val (.int (0 : Int32)), .val (.int (-1 : Int32)), .val (.ref b40), .val (.int (f1 (0 : Int32) (-1 : Int32) (p2 &&& (31 : Int32)) (m0_46_0 p2 p5))), .unset, .unset]) rfl ?_
        show Steps p.tables e below (T51.setTop (mkF m 153 #[.val (.int p1), .val (.int p2), .val (.int p3), .val (.int p4), .val (.int p5), .val (.int (p1 &&& (3 : Int32))), .val (.int (p2 &&& (31 : Int32))), .val (.ref s_RAW), .val (.int (0 : Int32)), .val (.int (-1 : Int32)), .val (.ref b40), .val (.int (f1 (0 : Int32) (-1 : Int32) (p2 &&& (31 : Int32)) (m0_46_0 p2 p5))), .unset, .unset] [])) _
        refine XS.iload X51.here hx rfl (hb hby at_153) rfl ?_
        show Steps p.tables e below (T51.setTop (mkF m 155 #[.val (.int p1), .val (.int p2), .val (.int p3), .val (.int p4), .val (.int p5), .val (.int (p1 &&& (3 : Int32))), .val (.int (p2 &&& (31 : Int32))), .val (.ref s_RAW), .val (.int (0 : Int32)), .val (.int (-1 : Int32)), .val (.ref b40), .val (.int (f1 (0 : Int32) (-1 : Int32) (p2 &&& (31 : Int32)) (m0_46_0 p2 p5))), .unset, .unset] [(.int (p2 &&& (31 : Int32)))])) _
        refine XS.iload X51.here hx rfl (hb hby at_155) rfl ?_
        exact k)
      have pre53 : ∀ t, Steps p.tables e below (T51.setTop (mkF m 231 #[.val (.int p1), .val (.int p2), .val (.int p3), .val (.int p4), .val (.int p5), .val (.int (p1 &&& (3 : Int32))), .val (.int (p2 &&& (31 : Int32))), .val (.ref s_RAW), .val (.int (0 : Int32)), .val (.int (-1 : Int32)), .val (.ref b40), .val (.int (f1 (0 : Int32) (-1 : Int32) (p2 &&& (31 : Int32)) (m0_46_0 p2 p5))), .val (.int (m0_53_0 p2 p5)), .unset] [])) t → Steps p.tables e below (s₁.setTop (entryFrame m #[(.int p1), (.int p2), (.int p3), (.int p4), (.int p5)] maxLocals)) t := by
        intro t k
        by_cases hc54 : (0 : Int32) < (p2 &&& (31 : Int32))
        · rw [show (m0_53_0 p2 p5) = ((p5 &&& (255 : Int32)) >>> ((4 : Int32) &&& 31)) from by first | (rw [m0_53_0, if_pos hc54]; done) | (simp only [m0_53_0, if_pos hc54]; done) | rfl] at k
          refine pre52 t ?_
          show Steps p.tables e below (T51.setTop (mkF m 157 #[.val (.int p1), .val (.int p2), .val (.int p3), .val (.int p4), .val (.int p5), .val (.int (p1 &&& (3 : Int32))), .val (.int (p2 &&& (31 : Int32))), .val (.ref s_RAW), .val (.int (0 : Int32)), .val (.int (-1 : Int32)), .val (.ref b40), .val (.int (f1 (0 : Int32) (-1 : Int32) (p2 &&& (31 : Int32)) (m0_46_0 p2 p5))), .unset, .unset] [(.int (0 : Int32)), (.int (p2 &&& (31 : Int32)))])) _
          refine XS.icmpYes X51.here hx rfl (pc0 := 157) (pc' := 166) rfl (hb hby at_157) rfl (tlt hc54).2.2.1 (by decide) (by decide) ?_
          show Steps p.tables e below (T51.setTop (mkF m 166 #[.val (.int p1), .val (.int p2), .val (.int p3), .val (.int p4), .val (.int p5), .val (.int (p1 &&& (3 : Int32))), .val (.int (p2 &&& (31 : Int32))), .val (.ref s_RAW), .val (.int (0 : Int32)), .val (.int (-1 : Int32)), .val (.ref b40), .val (.int (f1 (0 : Int32) (-1 : Int32) (p2 &&& (31 : Int32)) (m0_46_0 p2 p5))), .unset, .unset] [])) _
          refine XS.iload X51.here hx rfl (hb hby at_166) rfl ?_
          show Steps p.tables e below (T51.setTop (mkF m 168 #[.val (.int p1), .val (.int p2), .val (.int p3), .val (.int p4), .val (.int p5), .val (.int (p1 &&& (3 : Int32))), .val (.int (p2 &&& (31 : Int32))), .val (.ref s_RAW), .val (.int (0 : Int32)), .val (.int (-1 : Int32)), .val (.ref b40), .val (.int (f1 (0 : Int32) (-1 : Int32) (p2 &&& (31 : Int32)) (m0_46_0 p2 p5))), .unset, .unset] [(.int (-1 : Int32))])) _
          refine XS.ifNo X51.here hx rfl (hb hby at_168) rfl ((if0 _ _).trans (tlt (by decide : (-1 : Int32) < (0 : Int32))).2.1) ?_
          show Steps p.tables e below (T51.setTop (mkF m 171 #[.val (.int p1), .val (.int p2), .val (.int p3), .val (.int p4), .val (.int p5), .val (.int (p1 &&& (3 : Int32))), .val (.int (p2 &&& (31 : Int32))), .val (.ref s_RAW), .val (.int (0 : Int32)), .val (.int (-1 : Int32)), .val (.ref b40), .val (.int (f1 (0 : Int32) (-1 : Int32) (p2 &&& (31 : Int32)) (m0_46_0 p2 p5))), .unset, .unset] [])) _
          refine XS.iload X51.here hx rfl (hb hby at_171) rfl ?_
          show Steps p.tables e below (T51.setTop (mkF m 173 #[.val (.int p1), .val (.int p2), .val (.int p3), .val (.int p4), .val (.int p5), .val (.int (p1 &&& (3 : Int32))), .val (.int (p2 &&& (31 : Int32))), .val (.ref s_RAW), .val (.int (0 : Int32)), .val (.int (-1 : Int32)), .val (.ref b40), .val (.int (f1 (0 : Int32) (-1 : Int32) (p2 &&& (31 : Int32)) (m0_46_0 p2 p5))), .unset, .unset] [(.int p5)])) _
          refine XS.sipush X51.here hx rfl (hb hby at_173) ?_
          show Steps p.tables e below (T51.setTop (mkF m 176 #[.val (.int p1), .val (.int p2), .val (.int p3), .val (.int p4), .val (.int p5), .val (.int (p1 &&& (3 : Int32))), .val (.int (p2 &&& (31 : Int32))), .val (.ref s_RAW), .val (.int (0 : Int32)), .val (.int (-1 : Int32)), .val (.ref b40), .val (.int (f1 (0 : Int32) (-1 : Int32) (p2 &&& (31 : Int32)) (m0_46_0 p2 p5))), .unset, .unset] [(.int (255 : Int32)), (.int p5)])) _
          refine XS.iand X51.here hx rfl (hb hby at_176) rfl ?_
          show Steps p.tables e below (T51.setTop (mkF m 177 #[.val (.int p1), .val (.int p2), .val (.int p3), .val (.int p4), .val (.int p5), .val (.int (p1 &&& (3 : Int32))), .val (.int (p2 &&& (31 : Int32))), .val (.ref s_RAW), .val (.int (0 : Int32)), .val (.int (-1 : Int32)), .val (.ref b40), .val (.int (f1 (0 : Int32) (-1 : Int32) (p2 &&& (31 : Int32)) (m0_46_0 p2 p5))), .unset, .unset] [(.int (p5 &&& (255 : Int32)))])) _
          refine XS.iconst X51.here hx rfl (hb hby at_177) ?_
          show Steps p.tables e below (T51.setTop (mkF m 178 #[.val (.int p1), .val (.int p2), .val (.int p3), .val (.int p4), .val (.int p5), .val (.int (p1 &&& (3 : Int32))), .val (.int (p2 &&& (31 : Int32))), .val (.ref s_RAW), .val (.int (0 : Int32)), .val (.int (-1 : Int32)), .val (.ref b40), .val (.int (f1 (0 : Int32) (-1 : Int32) (p2 &&& (31 : Int32)) (m0_46_0 p2 p5))), .unset, .unset] [(.int (4 : Int32)), (.int (p5 &&& (255 : Int32)))])) _
          refine XS.ishr X51.here hx rfl (hb hby at_178) rfl ?_
          show Steps p.tables e below (T51.setTop (mkF m 179 #[.val (.int p1), .val (.int p2), .val (.int p3), .val (.int p4), .val (.int p5), .val (.int (p1 &&& (3 : Int32))), .val (.int (p2 &&& (31 : Int32))), .val (.ref s_RAW), .val (.int (0 : Int32)), .val (.int (-1 : Int32)), .val (.ref b40), .val (.int (f1 (0 : Int32) (-1 : Int32) (p2 &&& (31 : Int32)) (m0_46_0 p2 p5))), .unset, .unset] [(.int ((p5 &&& (255 : Int32)) >>> ((4 : Int32) &&& 31)))])) _
          refine XS.istore X51.here hx rfl (hb hby at_179) rfl (l' := #[.val (.int p1), .val (.int p2), .val (.int p3), .val (.int p4), .val (.int p5), .val (.int (p1 &&& (3 : Int32))), .val (.int (p2 &&& (31 : Int32))), .val (.ref s_RAW), .val (.int (0 : Int32)), .val (.int (-1 : Int32)), .val (.ref b40), .val (.int (f1 (0 : Int32) (-1 : Int32) (p2 &&& (31 : Int32)) (m0_46_0 p2 p5))), .val (.int ((p5 &&& (255 : Int32)) >>> ((4 : Int32) &&& 31))), .unset]) rfl ?_
          show Steps p.tables e below (T51.setTop (mkF m 181 #[.val (.int p1), .val (.int p2), .val (.int p3), .val (.int p4), .val (.int p5), .val (.int (p1 &&& (3 : Int32))), .val (.int (p2 &&& (31 : Int32))), .val (.ref s_RAW), .val (.int (0 : Int32)), .val (.int (-1 : Int32)), .val (.ref b40), .val (.int (f1 (0 : Int32) (-1 : Int32) (p2 &&& (31 : Int32)) (m0_46_0 p2 p5))), .val (.int ((p5 &&& (255 : Int32)) >>> ((4 : Int32) &&& 31))), .unset] [])) _
          refine XS.goto X51.here hx rfl (pc0 := 181) (pc' := 231) rfl (hb hby at_181) (by decide) (by decide) ?_
          exact k
        · rw [show (m0_53_0 p2 p5) = (0 : Int32) from by first | (rw [m0_53_0, if_neg hc54]; done) | (simp only [m0_53_0, if_neg hc54]; done) | rfl] at k
          refine pre52 t ?_
          show Steps p.tables e below (T51.setTop (mkF m 157 #[.val (.int p1), .val (.int p2), .val (.int p3), .val (.int p4), .val (.int p5), .val (.int (p1 &&& (3 : Int32))), .val (.int (p2 &&& (31 : Int32))), .val (.ref s_RAW), .val (.int (0 : Int32)), .val (.int (-1 : Int32)), .val (.ref b40), .val (.int (f1 (0 : Int32) (-1 : Int32) (p2 &&& (31 : Int32)) (m0_46_0 p2 p5))), .unset, .unset] [(.int (0 : Int32)), (.int (p2 &&& (31 : Int32)))])) _
          refine XS.icmpNo X51.here hx rfl (hb hby at_157) rfl (flt hc54).2.2.1 ?_
          show Steps p.tables e below (T51.setTop (mkF m 160 #[.val (.int p1), .val (.int p2), .val (.int p3), .val (.int p4), .val (.int p5), .val (.int (p1 &&& (3 : Int32))), .val (.int (p2 &&& (31 : Int32))), .val (.ref s_RAW), .val (.int (0 : Int32)), .val (.int (-1 : Int32)), .val (.ref b40), .val (.int (f1 (0 : Int32) (-1 : Int32) (p2 &&& (31 : Int32)) (m0_46_0 p2 p5))), .unset, .unset] [])) _
          refine XS.iconst X51.here hx rfl (hb hby at_160) ?_
          show Steps p.tables e below (T51.setTop (mkF m 161 #[.val (.int p1), .val (.int p2), .val (.int p3), .val (.int p4), .val (.int p5), .val (.int (p1 &&& (3 : Int32))), .val (.int (p2 &&& (31 : Int32))), .val (.ref s_RAW), .val (.int (0 : Int32)), .val (.int (-1 : Int32)), .val (.ref b40), .val (.int (f1 (0 : Int32) (-1 : Int32) (p2 &&& (31 : Int32)) (m0_46_0 p2 p5))), .unset, .unset] [(.int (0 : Int32))])) _
          refine XS.istore X51.here hx rfl (hb hby at_161) rfl (l' := #[.val (.int p1), .val (.int p2), .val (.int p3), .val (.int p4), .val (.int p5), .val (.int (p1 &&& (3 : Int32))), .val (.int (p2 &&& (31 : Int32))), .val (.ref s_RAW), .val (.int (0 : Int32)), .val (.int (-1 : Int32)), .val (.ref b40), .val (.int (f1 (0 : Int32) (-1 : Int32) (p2 &&& (31 : Int32)) (m0_46_0 p2 p5))), .val (.int (0 : Int32)), .unset]) rfl ?_
          show Steps p.tables e below (T51.setTop (mkF m 163 #[.val (.int p1), .val (.int p2), .val (.int p3), .val (.int p4), .val (.int p5), .val (.int (p1 &&& (3 : Int32))), .val (.int (p2 &&& (31 : Int32))), .val (.ref s_RAW), .val (.int (0 : Int32)), .val (.int (-1 : Int32)), .val (.ref b40), .val (.int (f1 (0 : Int32) (-1 : Int32) (p2 &&& (31 : Int32)) (m0_46_0 p2 p5))), .val (.int (0 : Int32)), .unset] [])) _
          refine XS.goto X51.here hx rfl (pc0 := 163) (pc' := 231) rfl (hb hby at_163) (by decide) (by decide) ?_
          exact k
      have pre55 : ∀ t, Steps p.tables e below (T51.setTop (mkF m 235 #[.val (.int p1), .val (.int p2), .val (.int p3), .val (.int p4), .val (.int p5), .val (.int (p1 &&& (3 : Int32))), .val (.int (p2 &&& (31 : Int32))), .val (.ref s_RAW), .val (.int (0 : Int32)), .val (.int (-1 : Int32)), .val (.ref b40), .val (.int (f1 (0 : Int32) (-1 : Int32) (p2 &&& (31 : Int32)) (m0_46_0 p2 p5))), .val (.int (m0_53_0 p2 p5)), .unset] [(.int (m0_53_0 p2 p5)), (.int (f1 (0 : Int32) (-1 : Int32) (p2 &&& (31 : Int32)) (m0_46_0 p2 p5)))])) t → Steps p.tables e below (s₁.setTop (entryFrame m #[(.int p1), (.int p2), (.int p3), (.int p4), (.int p5)] maxLocals)) t := fun t k => pre53 t (by
        show Steps p.tables e below (T51.setTop (mkF m 231 #[.val (.int p1), .val (.int p2), .val (.int p3), .val (.int p4), .val (.int p5), .val (.int (p1 &&& (3 : Int32))), .val (.int (p2 &&& (31 : Int32))), .val (.ref s_RAW), .val (.int (0 : Int32)), .val (.int (-1 : Int32)), .val (.ref b40), .val (.int (f1 (0 : Int32) (-1 : Int32) (p2 &&& (31 : Int32)) (m0_46_0 p2 p5))), .val (.int (m0_53_0 p2 p5)), .unset] [])) _
        refine XS.iload X51.here hx rfl (hb hby at_231) rfl ?_
        show Steps p.tables e below (T51.setTop (mkF m 233 #[.val (.int p1), .val (.int p2), .val (.int p3), .val (.int p4), .val (.int p5), .val (.int (p1 &&& (3 : Int32))), .val (.int (p2 &&& (31 : Int32))), .val (.ref s_RAW), .val (.int (0 : Int32)), .val (.int (-1 : Int32)), .val (.ref b40), .val (.int (f1 (0 : Int32) (-1 : Int32) (p2 &&& (31 : Int32)) (m0_46_0 p2 p5))), .val (.int (m0_53_0 p2 p5)), .unset] [(.int (f1 (0 : Int32) (-1 : Int32) (p2 &&& (31 : Int32)) (m0_46_0 p2 p5)))])) _
        refine XS.iload X51.here hx rfl (hb hby at_233) rfl ?_
        exact k)
      by_cases hc56 : (f1 (0 : Int32) (-1 : Int32) (p2 &&& (31 : Int32)) (m0_46_0 p2 p5)) = (m0_53_0 p2 p5)
      · obtain ⟨fs, hr, hrun, hended, hW, hsame⟩ := X51.leave (v := some (.int (1 : Int32))) (fun h => by rw [Bd.returns] at h; cases h)
        refine ⟨_, _, pre55 _ ?_, hrun, hended, _, _, rfl, ?_, ⟨_, rfl⟩, hW, hsame.mono (by decide) (by decide)⟩
        · show Steps p.tables e below (T51.setTop (mkF m 235 #[.val (.int p1), .val (.int p2), .val (.int p3), .val (.int p4), .val (.int p5), .val (.int (p1 &&& (3 : Int32))), .val (.int (p2 &&& (31 : Int32))), .val (.ref s_RAW), .val (.int (0 : Int32)), .val (.int (-1 : Int32)), .val (.ref b40), .val (.int (f1 (0 : Int32) (-1 : Int32) (p2 &&& (31 : Int32)) (m0_46_0 p2 p5))), .val (.int (m0_53_0 p2 p5)), .unset] [(.int (m0_53_0 p2 p5)), (.int (f1 (0 : Int32) (-1 : Int32) (p2 &&& (31 : Int32)) (m0_46_0 p2 p5)))])) _
          refine XS.icmpNo X51.here hx rfl (hb hby at_235) rfl (teq hc56).2 ?_
          show Steps p.tables e below (T51.setTop (mkF m 238 #[.val (.int p1), .val (.int p2), .val (.int p3), .val (.int p4), .val (.int p5), .val (.int (p1 &&& (3 : Int32))), .val (.int (p2 &&& (31 : Int32))), .val (.ref s_RAW), .val (.int (0 : Int32)), .val (.int (-1 : Int32)), .val (.ref b40), .val (.int (f1 (0 : Int32) (-1 : Int32) (p2 &&& (31 : Int32)) (m0_46_0 p2 p5))), .val (.int (m0_53_0 p2 p5)), .unset] [])) _
          refine XS.iconst X51.here hx rfl (hb hby at_238) ?_
          show Steps p.tables e below (T51.setTop (mkF m 239 #[.val (.int p1), .val (.int p2), .val (.int p3), .val (.int p4), .val (.int p5), .val (.int (p1 &&& (3 : Int32))), .val (.int (p2 &&& (31 : Int32))), .val (.ref s_RAW), .val (.int (0 : Int32)), .val (.int (-1 : Int32)), .val (.ref b40), .val (.int (f1 (0 : Int32) (-1 : Int32) (p2 &&& (31 : Int32)) (m0_46_0 p2 p5))), .val (.int (m0_53_0 p2 p5)), .unset] [(.int (1 : Int32))])) _
          refine XS.goto X51.here hx rfl (pc0 := 239) (pc' := 243) rfl (hb hby at_239) (by decide) (by decide) ?_
          show Steps p.tables e below (T51.setTop (mkF m 243 #[.val (.int p1), .val (.int p2), .val (.int p3), .val (.int p4), .val (.int p5), .val (.int (p1 &&& (3 : Int32))), .val (.int (p2 &&& (31 : Int32))), .val (.ref s_RAW), .val (.int (0 : Int32)), .val (.int (-1 : Int32)), .val (.ref b40), .val (.int (f1 (0 : Int32) (-1 : Int32) (p2 &&& (31 : Int32)) (m0_46_0 p2 p5))), .val (.int (m0_53_0 p2 p5)), .unset] [(.int (1 : Int32))])) _
          exact retN X51 hx (t := .boolean) Bd.returns (by simp) (hb hby at_243) hr
        · show Q0 Z p1 p2 p3 p4 p5 s_ETHERNET s_LINUX_SLL2 s_LINUX_SLL s_RAW h0 n0 _ T51.heap _
          rw [e51]
          exact ⟨by rw [show (f0 p1 p2 p3 p4 p5) = (1 : Int32) from by first | (rw [f0, if_neg hc2, if_pos hc38, if_pos hc56]; done) | (simp only [f0, if_neg hc2, if_pos hc38, if_pos hc56]; done) | rfl], N51⟩
      · obtain ⟨fs, hr, hrun, hended, hW, hsame⟩ := X51.leave (v := some (.int (0 : Int32))) (fun h => by rw [Bd.returns] at h; cases h)
        refine ⟨_, _, pre55 _ ?_, hrun, hended, _, _, rfl, ?_, ⟨_, rfl⟩, hW, hsame.mono (by decide) (by decide)⟩
        · show Steps p.tables e below (T51.setTop (mkF m 235 #[.val (.int p1), .val (.int p2), .val (.int p3), .val (.int p4), .val (.int p5), .val (.int (p1 &&& (3 : Int32))), .val (.int (p2 &&& (31 : Int32))), .val (.ref s_RAW), .val (.int (0 : Int32)), .val (.int (-1 : Int32)), .val (.ref b40), .val (.int (f1 (0 : Int32) (-1 : Int32) (p2 &&& (31 : Int32)) (m0_46_0 p2 p5))), .val (.int (m0_53_0 p2 p5)), .unset] [(.int (m0_53_0 p2 p5)), (.int (f1 (0 : Int32) (-1 : Int32) (p2 &&& (31 : Int32)) (m0_46_0 p2 p5)))])) _
          refine XS.icmpYes X51.here hx rfl (pc0 := 235) (pc' := 242) rfl (hb hby at_235) rfl (feq hc56).2 (by decide) (by decide) ?_
          show Steps p.tables e below (T51.setTop (mkF m 242 #[.val (.int p1), .val (.int p2), .val (.int p3), .val (.int p4), .val (.int p5), .val (.int (p1 &&& (3 : Int32))), .val (.int (p2 &&& (31 : Int32))), .val (.ref s_RAW), .val (.int (0 : Int32)), .val (.int (-1 : Int32)), .val (.ref b40), .val (.int (f1 (0 : Int32) (-1 : Int32) (p2 &&& (31 : Int32)) (m0_46_0 p2 p5))), .val (.int (m0_53_0 p2 p5)), .unset] [])) _
          refine XS.iconst X51.here hx rfl (hb hby at_242) ?_
          show Steps p.tables e below (T51.setTop (mkF m 243 #[.val (.int p1), .val (.int p2), .val (.int p3), .val (.int p4), .val (.int p5), .val (.int (p1 &&& (3 : Int32))), .val (.int (p2 &&& (31 : Int32))), .val (.ref s_RAW), .val (.int (0 : Int32)), .val (.int (-1 : Int32)), .val (.ref b40), .val (.int (f1 (0 : Int32) (-1 : Int32) (p2 &&& (31 : Int32)) (m0_46_0 p2 p5))), .val (.int (m0_53_0 p2 p5)), .unset] [(.int (0 : Int32))])) _
          exact retN X51 hx (t := .boolean) Bd.returns (by simp) (hb hby at_243) hr
        · show Q0 Z p1 p2 p3 p4 p5 s_ETHERNET s_LINUX_SLL2 s_LINUX_SLL s_RAW h0 n0 _ T51.heap _
          rw [e51]
          exact ⟨by rw [show (f0 p1 p2 p3 p4 p5) = (0 : Int32) from by first | (rw [f0, if_neg hc2, if_pos hc38, if_neg hc56]; done) | (simp only [f0, if_neg hc2, if_pos hc38, if_neg hc56]; done) | rfl], N51⟩
    · have pre59 : ∀ t, Steps p.tables e below (s₁.setTop (mkF m 55 #[.val (.int p1), .val (.int p2), .val (.int p3), .val (.int p4), .val (.int p5), .val (.int (p1 &&& (3 : Int32))), .val (.int (p2 &&& (31 : Int32))), .unset, .unset, .unset, .unset, .unset, .unset, .unset] [(.int (2 : Int32)), (.int (p1 &&& (3 : Int32)))])) t → Steps p.tables e below (s₁.setTop (entryFrame m #[(.int p1), (.int p2), (.int p3), (.int p4), (.int p5)] maxLocals)) t := fun t k => pre37 t (by
        show Steps p.tables e below (s₁.setTop (mkF m 35 #[.val (.int p1), .val (.int p2), .val (.int p3), .val (.int p4), .val (.int p5), .val (.int (p1 &&& (3 : Int32))), .val (.int (p2 &&& (31 : Int32))), .unset, .unset, .unset, .unset, .unset, .unset, .unset] [(.int (1 : Int32)), (.int (p1 &&& (3 : Int32)))])) _
        refine XS.icmpYes X0.here hx rfl (pc0 := 35) (pc' := 52) rfl (hb hby at_35) rfl (feq hc38).2 (by decide) (by decide) ?_
        show Steps p.tables e below (s₁.setTop (mkF m 52 #[.val (.int p1), .val (.int p2), .val (.int p3), .val (.int p4), .val (.int p5), .val (.int (p1 &&& (3 : Int32))), .val (.int (p2 &&& (31 : Int32))), .unset, .unset, .unset, .unset, .unset, .unset, .unset] [])) _
        refine XS.iload X0.here hx rfl (hb hby at_52) rfl ?_
        show Steps p.tables e below (s₁.setTop (mkF m 54 #[.val (.int p1), .val (.int p2), .val (.int p3), .val (.int p4), .val (.int p5), .val (.int (p1 &&& (3 : Int32))), .val (.int (p2 &&& (31 : Int32))), .unset, .unset, .unset, .unset, .unset, .unset, .unset] [(.int (p1 &&& (3 : Int32)))])) _
        refine XS.iconst X0.here hx rfl (hb hby at_54) ?_
        exact k)
      by_cases hc60 : (p1 &&& (3 : Int32)) = (2 : Int32)
      · obtain ⟨T61, X61, e61, st61⟩ := getS2 X0 hx hZ hown (host := "") (Or.inl (hw _ (List.mem_of_getElem? (i := 17) rfl))) Via.refl e0 (zS_LINUX_SLL.ext O0.2) (g := (mkF m 58 #[.val (.int p1), .val (.int p2), .val (.int p3), .val (.int p4), .val (.int p5), .val (.int (p1 &&& (3 : Int32))), .val (.int (p2 &&& (31 : Int32))), .unset, .unset, .unset, .unset, .unset, .unset, .unset] [])) rfl (hb hby at_58)
        obtain ⟨T62, h62, k62, X62, e62, E62, A62, st62⟩ := newP X61 hx hZ (hw _ (List.mem_of_getElem? (i := 3) rfl)) e61 (g := (mkF m 88 #[.val (.int p1), .val (.int p2), .val (.int p3), .val (.int p4), .val (.int p5), .val (.int (p1 &&& (3 : Int32))), .val (.int (p2 &&& (31 : Int32))), .val (.ref s_LINUX_SLL), .val (.int (16 : Int32)), .val (.int (14 : Int32)), .unset, .unset, .unset, .unset] [(.int (p2 &&& (31 : Int32)))])) rfl (hb hby at_88) rfl (own_nn31 _) (cap := 31) (own_le31 _) (by decide) (by decide) (by decide)
        obtain ⟨b62, g62⟩ : ∃ z, z = h0.size := ⟨_, rfl⟩
        rw [← g62] at A62 st62
        have ne63 : s_ETHERNET ≠ b62 := Nat.ne_of_lt (Nat.lt_of_lt_of_le (zE_s_ETHERNET.ext O0.2).lt (Nat.le_of_eq g62.symm))
        have ne64 : s_LINUX_SLL2 ≠ b62 := Nat.ne_of_lt (Nat.lt_of_lt_of_le (zE_s_LINUX_SLL2.ext O0.2).lt (Nat.le_of_eq g62.symm))
        have ne65 : s_LINUX_SLL ≠ b62 := Nat.ne_of_lt (Nat.lt_of_lt_of_le (zE_s_LINUX_SLL.ext O0.2).lt (Nat.le_of_eq g62.symm))
        have ne66 : s_RAW ≠ b62 := Nat.ne_of_lt (Nat.lt_of_lt_of_le (zE_s_RAW.ext O0.2).lt (Nat.le_of_eq g62.symm))
        have g_b62 : n0 ≤ b62 := Nat.le_trans Z0 (Nat.le_of_eq g62.symm)
        have sz_b62 : h0.size ≤ b62 := Nat.le_trans (Keep.refl h0 []).1 (Nat.le_of_eq g62.symm)
        have K62 : Keep h0 h62 [] := (Keep.refl h0 []).ext E62
        have V_b62 : AI Z h62 b62 .byte (p2 &&& (31 : Int32)) (fun _ => 0) := AI.new A62 (own_nn31 _) rfl
        have pre67 : ∀ t, Steps p.tables e below (T62.setTop (mkF m 101 #[.val (.int p1), .val (.int p2), .val (.int p3), .val (.int p4), .val (.int p5), .val (.int (p1 &&& (3 : Int32))), .val (.int (p2 &&& (31 : Int32))), .val (.ref s_LINUX_SLL), .val (.int (16 : Int32)), .val (.int (14 : Int32)), .val (.ref b62), .unset, .unset, .unset] [(.int (p2 &&& (31 : Int32))), (.int (14 : Int32))])) t → Steps p.tables e below (s₁.setTop (entryFrame m #[(.int p1), (.int p2), (.int p3), (.int p4), (.int p5)] maxLocals)) t := fun t k => pre59 t (by
          show Steps p.tables e below (s₁.setTop (mkF m 55 #[.val (.int p1), .val (.int p2), .val (.int p3), .val (.int p4), .val (.int p5), .val (.int (p1 &&& (3 : Int32))), .val (.int (p2 &&& (31 : Int32))), .unset, .unset, .unset, .unset, .unset, .unset, .unset] [(.int (2 : Int32)), (.int (p1 &&& (3 : Int32)))])) _
          refine XS.icmpNo X0.here hx rfl (hb hby at_55) rfl (teq hc60).2 ?_
          show Steps p.tables e below (s₁.setTop (mkF m 58 #[.val (.int p1), .val (.int p2), .val (.int p3), .val (.int p4), .val (.int p5), .val (.int (p1 &&& (3 : Int32))), .val (.int (p2 &&& (31 : Int32))), .unset, .unset, .unset, .unset, .unset, .unset, .unset] [])) _
          refine st61 _ ?_
          show Steps p.tables e below (T61.setTop (mkF m 61 #[.val (.int p1), .val (.int p2), .val (.int p3), .val (.int p4), .val (.int p5), .val (.int (p1 &&& (3 : Int32))), .val (.int (p2 &&& (31 : Int32))), .unset, .unset, .unset, .unset, .unset, .unset, .unset] [(.ref s_LINUX_SLL)])) _
          refine XS.astore X61.here hx rfl (hb hby at_61) rfl rfl (l' := #[.val (.int p1), .val (.int p2), .val (.int p3), .val (.int p4), .val (.int p5), .val (.int (p1 &&& (3 : Int32))), .val (.int (p2 &&& (31 : Int32))), .val (.ref s_LINUX_SLL), .unset, .unset, .unset, .unset, .unset, .unset]) rfl ?_
          show Steps p.tables e below (T61.setTop (mkF m 63 #[.val (.int p1), .val (.int p2), .val (.int p3), .val (.int p4), .val (.int p5), .val (.int (p1 &&& (3 : Int32))), .val (.int (p2 &&& (31 : Int32))), .val (.ref s_LINUX_SLL), .unset, .unset, .unset, .unset, .unset, .unset] [])) _
          refine XS.bipush X61.here hx rfl (hb hby at_63) ?_
          show Steps p.tables e below (T61.setTop (mkF m 65 #[.val (.int p1), .val (.int p2), .val (.int p3), .val (.int p4), .val (.int p5), .val (.int (p1 &&& (3 : Int32))), .val (.int (p2 &&& (31 : Int32))), .val (.ref s_LINUX_SLL), .unset, .unset, .unset, .unset, .unset, .unset] [(.int (16 : Int32))])) _
          refine XS.istore X61.here hx rfl (hb hby at_65) rfl (l' := #[.val (.int p1), .val (.int p2), .val (.int p3), .val (.int p4), .val (.int p5), .val (.int (p1 &&& (3 : Int32))), .val (.int (p2 &&& (31 : Int32))), .val (.ref s_LINUX_SLL), .val (.int (16 : Int32)), .unset, .unset, .unset, .unset, .unset]) rfl ?_
          show Steps p.tables e below (T61.setTop (mkF m 67 #[.val (.int p1), .val (.int p2), .val (.int p3), .val (.int p4), .val (.int p5), .val (.int (p1 &&& (3 : Int32))), .val (.int (p2 &&& (31 : Int32))), .val (.ref s_LINUX_SLL), .val (.int (16 : Int32)), .unset, .unset, .unset, .unset, .unset] [])) _
          refine XS.bipush X61.here hx rfl (hb hby at_67) ?_
          show Steps p.tables e below (T61.setTop (mkF m 69 #[.val (.int p1), .val (.int p2), .val (.int p3), .val (.int p4), .val (.int p5), .val (.int (p1 &&& (3 : Int32))), .val (.int (p2 &&& (31 : Int32))), .val (.ref s_LINUX_SLL), .val (.int (16 : Int32)), .unset, .unset, .unset, .unset, .unset] [(.int (14 : Int32))])) _
          refine XS.istore X61.here hx rfl (hb hby at_69) rfl (l' := #[.val (.int p1), .val (.int p2), .val (.int p3), .val (.int p4), .val (.int p5), .val (.int (p1 &&& (3 : Int32))), .val (.int (p2 &&& (31 : Int32))), .val (.ref s_LINUX_SLL), .val (.int (16 : Int32)), .val (.int (14 : Int32)), .unset, .unset, .unset, .unset]) rfl ?_
          show Steps p.tables e below (T61.setTop (mkF m 71 #[.val (.int p1), .val (.int p2), .val (.int p3), .val (.int p4), .val (.int p5), .val (.int (p1 &&& (3 : Int32))), .val (.int (p2 &&& (31 : Int32))), .val (.ref s_LINUX_SLL), .val (.int (16 : Int32)), .val (.int (14 : Int32)), .unset, .unset, .unset, .unset] [])) _
          refine XS.goto X61.here hx rfl (pc0 := 71) (pc' := 86) rfl (hb hby at_71) (by decide) (by decide) ?_
          show Steps p.tables e below (T61.setTop (mkF m 86 #[.val (.int p1), .val (.int p2), .val (.int p3), .val (.int p4), .val (.int p5), .val (.int (p1 &&& (3 : Int32))), .val (.int (p2 &&& (31 : Int32))), .val (.ref s_LINUX_SLL), .val (.int (16 : Int32)), .val (.int (14 : Int32)), .unset, .unset, .unset, .unset] [])) _
          refine XS.iload X61.here hx rfl (hb hby at_86) rfl ?_
          show Steps p.tables e below (T61.setTop (mkF m 88 #[.val (.int p1), .val (.int p2), .val (.int p3), .val (.int p4), .val (.int p5), .val (.int (p1 &&& (3 : Int32))), .val (.int (p2 &&& (31 : Int32))), .val (.ref s_LINUX_SLL), .val (.int (16 : Int32)), .val (.int (14 : Int32)), .unset, .unset, .unset, .unset] [(.int (p2 &&& (31 : Int32)))])) _
          refine st62 _ ?_
          show Steps p.tables e below (T62.setTop (mkF m 90 #[.val (.int p1), .val (.int p2), .val (.int p3), .val (.int p4), .val (.int p5), .val (.int (p1 &&& (3 : Int32))), .val (.int (p2 &&& (31 : Int32))), .val (.ref s_LINUX_SLL), .val (.int (16 : Int32)), .val (.int (14 : Int32)), .unset, .unset, .unset, .unset] [(.ref b62)])) _
          refine XS.astore X62.here hx rfl (hb hby at_90) rfl rfl (l' := #[.val (.int p1), .val (.int p2), .val (.int p3), .val (.int p4), .val (.int p5), .val (.int (p1 &&& (3 : Int32))), .val (.int (p2 &&& (31 : Int32))), .val (.ref s_LINUX_SLL), .val (.int (16 : Int32)), .val (.int (14 : Int32)), .val (.ref b62), .unset, .unset, .unset]) rfl ?_
          show Steps p.tables e below (T62.setTop (mkF m 92 #[.val (.int p1), .val (.int p2), .val (.int p3), .val (.int p4), .val (.int p5), .val (.int (p1 &&& (3 : Int32))), .val (.int (p2 &&& (31 : Int32))), .val (.ref s_LINUX_SLL), .val (.int (16 : Int32)), .val (.int (14 : Int32)), .val (.ref b62), .unset, .unset, .unset] [])) _
          refine XS.iload X62.here hx rfl (hb hby at_92) rfl ?_
          show Steps p.tables e below (T62.setTop (mkF m 94 #[.val (.int p1), .val (.int p2), .val (.int p3), .val (.int p4), .val (.int p5), .val (.int (p1 &&& (3 : Int32))), .val (.int (p2 &&& (31 : Int32))), .val (.ref s_LINUX_SLL), .val (.int (16 : Int32)), .val (.int (14 : Int32)), .val (.ref b62), .unset, .unset, .unset] [(.int (14 : Int32))])) _
          refine XS.ifNo X62.here hx rfl (hb hby at_94) rfl ((if0 _ _).trans (flt (by decide : ¬ ((14 : Int32) < (0 : Int32)))).1) ?_
          show Steps p.tables e below (T62.setTop (mkF m 97 #[.val (.int p1), .val (.int p2), .val (.int p3), .val (.int p4), .val (.int p5), .val (.int (p1 &&& (3 : Int32))), .val (.int (p2 &&& (31 : Int32))), .val (.ref s_LINUX_SLL), .val (.int (16 : Int32)), .val (.int (14 : Int32)), .val (.ref b62), .unset, .unset, .unset] [])) _
          refine XS.iload X62.here hx rfl (hb hby at_97) rfl ?_
          show Steps p.tables e below (T62.setTop (mkF m 99 #[.val (.int p1), .val (.int p2), .val (.int p3), .val (.int p4), .val (.int p5), .val (.int (p1 &&& (3 : Int32))), .val (.int (p2 &&& (31 : Int32))), .val (.ref s_LINUX_SLL), .val (.int (16 : Int32)), .val (.int (14 : Int32)), .val (.ref b62), .unset, .unset, .unset] [(.int (14 : Int32))])) _
          refine XS.iload X62.here hx rfl (hb hby at_99) rfl ?_
          exact k)
        obtain ⟨T68, locs68, h68, X68, e68, N68, Kj68, P68_0, pre68⟩ : ∃ (T' : State) (locs' : List Loc) (h' : Heap), Stand p l e room_1 s m #[(.int p1), (.int p2), (.int p3), (.int p4), (.int p5)] below meth c T' locs' 1 31 ∧ T'.heap = h' ∧ Fr n0 locs' ∧ Keep h62 h' [b62] ∧ AI Z h' b62 .byte (p2 &&& (31 : Int32)) (m0_68_0 p2 p3) ∧ ∀ t, Steps p.tables e below (T'.setTop (mkF m 111 #[.val (.int p1), .val (.int p2), .val (.int p3), .val (.int p4), .val (.int p5), .val (.int (p1 &&& (3 : Int32))), .val (.int (p2 &&& (31 : Int32))), .val (.ref s_LINUX_SLL), .val (.int (16 : Int32)), .val (.int (14 : Int32)), .val (.ref b62), .unset, .unset, .unset] [])) t → Steps p.tables e below (s₁.setTop (entryFrame m #[(.int p1), (.int p2), (.int p3), (.int p4), (.int p5)] maxLocals)) t := by
          by_cases hc69 : (14 : Int32) < (p2 &&& (31 : Int32))
          · obtain ⟨cl70, A70, S70, M70, G70⟩ := id V_b62
            have hin70 : ¬ ((14 : Int32) < 0 ∨ cl70.slots.size ≤ ((14 : Int32)).toNatClampNeg) := inb_of S70 (⟨by decide, hc69⟩)
            obtain ⟨T70, h70, X70, e70, W70, st70⟩ := stB X62 hx hZ e62 A70 (j := (14 : Int32)) hin70 (g := (mkF m 110 #[.val (.int p1), .val (.int p2), .val (.int p3), .val (.int p4), .val (.int p5), .val (.int (p1 &&& (3 : Int32))), .val (.int (p2 &&& (31 : Int32))), .val (.ref s_LINUX_SLL), .val (.int (16 : Int32)), .val (.int (14 : Int32)), .val (.ref b62), .unset, .unset, .unset] [(.int (p3.toInt8.toInt32)), (.int (14 : Int32)), (.ref b62)])) rfl rfl (hb hby at_110)
            have V70 : AI Z h70 b62 .byte (p2 &&& (31 : Int32)) (fun i => if i = 14 then ((p3.toInt8.toInt32).toInt8.toInt32) else (fun _ => 0) i) := AI.set A70 S70 M70 G70 W70
            have K70 : Keep h0 h70 [] := K62.wr W70 (Or.inr sz_b62)
            have N70 := Fr.snoc X70 N0 g_b62
            exact ⟨_, _, _, X70, e70, N70, ((Keep.refl _ [b62]).wr W70 (Or.inl (List.mem_of_getElem? (i := 0) rfl))), (by rw [show (m0_68_0 p2 p3) = (fun i => if i = 14 then ((p3.toInt8.toInt32).toInt8.toInt32) else (fun _ => 0) i) from by first | (rw [m0_68_0, if_pos hc69]; done) | (simp only [m0_68_0, if_pos hc69]; done) | rfl]; exact V70), fun t k => pre67 t (by
              show Steps p.tables e below (T62.setTop (mkF m 101 #[.val (.int p1), .val (.int p2), .val (.int p3), .val (.int p4), .val (.int p5), .val (.int (p1 &&& (3 : Int32))), .val (.int (p2 &&& (31 : Int32))), .val (.ref s_LINUX_SLL), .val (.int (16 : Int32)), .val (.int (14 : Int32)), .val (.ref b62), .unset, .unset, .unset] [(.int (p2 &&& (31 : Int32))), (.int (14 : Int32))])) _
              refine XS.icmpNo X62.here hx rfl (hb hby at_101) rfl (tlt hc69).2.1 ?_
              show Steps p.tables e below (T62.setTop (mkF m 104 #[.val (.int p1), .val (.int p2), .val (.int p3), .val (.int p4), .val (.int p5), .val (.int (p1 &&& (3 : Int32))), .val (.int (p2 &&& (31 : Int32))), .val (.ref s_LINUX_SLL), .val (.int (16 : Int32)), .val (.int (14 : Int32)), .val (.ref b62), .unset, .unset, .unset] [])) _
              refine XS.aload X62.here hx rfl (hb hby at_104) rfl rfl ?_
              show Steps p.tables e below (T62.setTop (mkF m 106 #[.val (.int p1), .val (.int p2), .val (.int p3), .val (.int p4), .val (.int p5), .val (.int (p1 &&& (3 : Int32))), .val (.int (p2 &&& (31 : Int32))), .val (.ref s_LINUX_SLL), .val (.int (16 : Int32)), .val (.int (14 : Int32)), .val (.ref b62), .unset, .unset, .unset] [(.ref b62)])) _
              refine XS.iload X62.here hx rfl (hb hby at_106) rfl ?_
              show Steps p.tables e below (T62.setTop (mkF m 108 #[.val (.int p1), .val (.int p2), .val (.int p3), .val (.int p4), .val (.int p5), .val (.int (p1 &&& (3 : Int32))), .val (.int (p2 &&& (31 : Int32))), .val (.ref s_LINUX_SLL), .val (.int (16 : Int32)), .val (.int (14 : Int32)), .val (.ref b62), .unset, .unset, .unset] [(.int (14 : Int32)), (.ref b62)])) _
              refine XS.iloadN X62.here hx rfl (hb hby at_108) rfl ?_
              show Steps p.tables e below (T62.setTop (mkF m 109 #[.val (.int p1), .val (.int p2), .val (.int p3), .val (.int p4), .val (.int p5), .val (.int (p1 &&& (3 : Int32))), .val (.int (p2 &&& (31 : Int32))), .val (.ref s_LINUX_SLL), .val (.int (16 : Int32)), .val (.int (14 : Int32)), .val (.ref b62), .unset, .unset, .unset] [(.int p3), (.int (14 : Int32)), (.ref b62)])) _
              refine XS.i2b X62.here hx rfl (hb hby at_109) rfl ?_
              show Steps p.tables e below (T62.setTop (mkF m 110 #[.val (.int p1), .val (.int p2), .val (.int p3), .val (.int p4), .val (.int p5), .val (.int (p1 &&& (3 : Int32))), .val (.int (p2 &&& (31 : Int32))), .val (.ref s_LINUX_SLL), .val (.int (16 : Int32)), .val (.int (14 : Int32)), .val (.ref b62), .unset, .unset, .unset] [(.int (p3.toInt8.toInt32)), (.int (14 : Int32)), (.ref b62)])) _
              refine st70 _ ?_
              exact k)⟩
          · exact ⟨_, _, _, X62, e62, N0, (Keep.refl _ [b62]), (by rw [show (m0_68_0 p2 p3) = (fun _ => 0) from by first | (rw [m0_68_0, if_neg hc69]; done) | (simp only [m0_68_0, if_neg hc69]; done) | rfl]; exact V_b62), fun t k => pre67 t (by
              show Steps p.tables e below (T62.setTop (mkF m 101 #[.val (.int p1), .val (.int p2), .val (.int p3), .val (.int p4), .val (.int p5), .val (.int (p1 &&& (3 : Int32))), .val (.int (p2 &&& (31 : Int32))), .val (.ref s_LINUX_SLL), .val (.int (16 : Int32)), .val (.int (14 : Int32)), .val (.ref b62), .unset, .unset, .unset] [(.int (p2 &&& (31 : Int32))), (.int (14 : Int32))])) _
              refine XS.icmpYes X62.here hx rfl (pc0 := 101) (pc' := 111) rfl (hb hby at_101) rfl (flt hc69).2.1 (by decide) (by decide) ?_
              exact k)⟩
        have K71 : Keep h0 h68 [] := K62.trans Kj68 (allS (Or.inr sz_b62) all0)
        have pre72 : ∀ t, Steps p.tables e below (T68.setTop (mkF m 117 #[.val (.int p1), .val (.int p2), .val (.int p3), .val (.int p4), .val (.int p5), .val (.int (p1 &&& (3 : Int32))), .val (.int (p2 &&& (31 : Int32))), .val (.ref s_LINUX_SLL), .val (.int (16 : Int32)), .val (.int (14 : Int32)), .val (.ref b62), .unset, .unset, .unset] [(.int (p2 &&& (31 : Int32))), (.int (15 : Int32))])) t → Steps p.tables e below (s₁.setTop (entryFrame m #[(.int p1), (.int p2), (.int p3), (.int p4), (.int p5)] maxLocals)) t := fun t k => pre68 t (by
          show Steps p.tables e below (T68.setTop (mkF m 111 #[.val (.int p1), .val (.int p2), .val (.int p3), .val (.int p4), .val (.int p5), .val (.int (p1 &&& (3 : Int32))), .val (.int (p2 &&& (31 : Int32))), .val (.ref s_LINUX_SLL), .val (.int (16 : Int32)), .val (.int (14 : Int32)), .val (.ref b62), .unset, .unset, .unset] [])) _
          refine XS.iload X68.here hx rfl (hb hby at_111) rfl ?_
          show Steps p.tables e below (T68.setTop (mkF m 113 #[.val (.int p1), .val (.int p2), .val (.int p3), .val (.int p4), .val (.int p5), .val (.int (p1 &&& (3 : Int32))), .val (.int (p2 &&& (31 : Int32))), .val (.ref s_LINUX_SLL), .val (.int (16 : Int32)), .val (.int (14 : Int32)), .val (.ref b62), .unset, .unset, .unset] [(.int (14 : Int32))])) _
          refine XS.iconst X68.here hx rfl (hb hby at_113) ?_
          show Steps p.tables e below (T68.setTop (mkF m 114 #[.val (.int p1), .val (.int p2), .val (.int p3), .val (.int p4), .val (.int p5), .val (.int (p1 &&& (3 : Int32))), .val (.int (p2 &&& (31 : Int32))), .val (.ref s_LINUX_SLL), .val (.int (16 : Int32)), .val (.int (14 : Int32)), .val (.ref b62), .unset, .unset, .unset] [(.int (1 : Int32)), (.int (14 : Int32))])) _
          refine XS.iadd X68.here hx rfl (hb hby at_114) rfl ?_
          show Steps p.tables e below (T68.setTop (mkF m 115 #[.val (.int p1), .val (.int p2), .val (.int p3), .val (.int p4), .val (.int p5), .val (.int (p1 &&& (3 : Int32))), .val (.int (p2 &&& (31 : Int32))), .val (.ref s_LINUX_SLL), .val (.int (16 : Int32)), .val (.int (14 : Int32)), .val (.ref b62), .unset, .unset, .unset] [(.int (15 : Int32))])) _
          refine XS.iload X68.here hx rfl (hb hby at_115) rfl ?_
          exact k)
        obtain ⟨T73, locs73, h73, X73, e73, N73, Kj73, P73_0, pre73⟩ : ∃ (T' : State) (locs' : List Loc) (h' : Heap), Stand p l e room_1 s m #[(.int p1), (.int p2), (.int p3), (.int p4), (.int p5)] below meth c T' locs' 1 31 ∧ T'.heap = h' ∧ Fr n0 locs' ∧ Keep h68 h' [b62] ∧ AI Z h' b62 .byte (p2 &&& (31 : Int32)) (m0_73_0 p2 p3 p4) ∧ ∀ t, Steps p.tables e below (T'.setTop (mkF m 129 #[.val (.int p1), .val (.int p2), .val (.int p3), .val (.int p4), .val (.int p5), .val (.int (p1 &&& (3 : Int32))), .val (.int (p2 &&& (31 : Int32))), .val (.ref s_LINUX_SLL), .val (.int (16 : Int32)), .val (.int (14 : Int32)), .val (.ref b62), .unset, .unset, .unset] [])) t → Steps p.tables e below (s₁.setTop (entryFrame m #[(.int p1), (.int p2), (.int p3), (.int p4), (.int p5)] maxLocals)) t := by
          by_cases hc74 : (15 : Int32) < (p2 &&& (31 : Int32))
          · obtain ⟨cl75, A75, S75, M75, G75⟩ := id P68_0
            have hin75 : ¬ ((15 : Int32) < 0 ∨ cl75.slots.size ≤ ((15 : Int32)).toNatClampNeg) := inb_of S75 (⟨by decide, hc74⟩)
            obtain ⟨T75, h75, X75, e75, W75, st75⟩ := stB X68 hx hZ e68 A75 (j := (15 : Int32)) hin75 (g := (mkF m 128 #[.val (.int p1), .val (.int p2), .val (.int p3), .val (.int p4), .val (.int p5), .val (.int (p1 &&& (3 : Int32))), .val (.int (p2 &&& (31 : Int32))), .val (.ref s_LINUX_SLL), .val (.int (16 : Int32)), .val (.int (14 : Int32)), .val (.ref b62), .unset, .unset, .unset] [(.int (p4.toInt8.toInt32)), (.int (15 : Int32)), (.ref b62)])) rfl rfl (hb hby at_128)
            have V75 : AI Z h75 b62 .byte (p2 &&& (31 : Int32)) (fun i => if i = 15 then ((p4.toInt8.toInt32).toInt8.toInt32) else (m0_68_0 p2 p3) i) := AI.set A75 S75 M75 G75 W75
            have K75 : Keep h0 h75 [] := K71.wr W75 (Or.inr sz_b62)
            have N75 := Fr.snoc X75 N68 g_b62
            exact ⟨_, _, _, X75, e75, N75, ((Keep.refl _ [b62]).wr W75 (Or.inl (List.mem_of_getElem? (i := 0) rfl))), (by rw [show (m0_73_0 p2 p3 p4) = (fun i => if i = 15 then ((p4.toInt8.toInt32).toInt8.toInt32) else (m0_68_0 p2 p3) i) from by first | (rw [m0_73_0, if_pos hc74]; done) | (simp only [m0_73_0, if_pos hc74]; done) | rfl]; exact V75), fun t k => pre72 t (by
              show Steps p.tables e below (T68.setTop (mkF m 117 #[.val (.int p1), .val (.int p2), .val (.int p3), .val (.int p4), .val (.int p5), .val (.int (p1 &&& (3 : Int32))), .val (.int (p2 &&& (31 : Int32))), .val (.ref s_LINUX_SLL), .val (.int (16 : Int32)), .val (.int (14 : Int32)), .val (.ref b62), .unset, .unset, .unset] [(.int (p2 &&& (31 : Int32))), (.int (15 : Int32))])) _
              refine XS.icmpNo X68.here hx rfl (hb hby at_117) rfl (tlt hc74).2.1 ?_
              show Steps p.tables e below (T68.setTop (mkF m 120 #[.val (.int p1), .val (.int p2), .val (.int p3), .val (.int p4), .val (.int p5), .val (.int (p1 &&& (3 : Int32))), .val (.int (p2 &&& (31 : Int32))), .val (.ref s_LINUX_SLL), .val (.int (16 : Int32)), .val (.int (14 : Int32)), .val (.ref b62), .unset, .unset, .unset] [])) _
              refine XS.aload X68.here hx rfl (hb hby at_120) rfl rfl ?_
              show Steps p.tables e below (T68.setTop (mkF m 122 #[.val (.int p1), .val (.int p2), .val (.int p3), .val (.int p4), .val (.int p5), .val (.int (p1 &&& (3 : Int32))), .val (.int (p2 &&& (31 : Int32))), .val (.ref s_LINUX_SLL), .val (.int (16 : Int32)), .val (.int (14 : Int32)), .val (.ref b62), .unset, .unset, .unset] [(.ref b62)])) _
              refine XS.iload X68.here hx rfl (hb hby at_122) rfl ?_
              show Steps p.tables e below (T68.setTop (mkF m 124 #[.val (.int p1), .val (.int p2), .val (.int p3), .val (.int p4), .val (.int p5), .val (.int (p1 &&& (3 : Int32))), .val (.int (p2 &&& (31 : Int32))), .val (.ref s_LINUX_SLL), .val (.int (16 : Int32)), .val (.int (14 : Int32)), .val (.ref b62), .unset, .unset, .unset] [(.int (14 : Int32)), (.ref b62)])) _
              refine XS.iconst X68.here hx rfl (hb hby at_124) ?_
              show Steps p.tables e below (T68.setTop (mkF m 125 #[.val (.int p1), .val (.int p2), .val (.int p3), .val (.int p4), .val (.int p5), .val (.int (p1 &&& (3 : Int32))), .val (.int (p2 &&& (31 : Int32))), .val (.ref s_LINUX_SLL), .val (.int (16 : Int32)), .val (.int (14 : Int32)), .val (.ref b62), .unset, .unset, .unset] [(.int (1 : Int32)), (.int (14 : Int32)), (.ref b62)])) _
              refine XS.iadd X68.here hx rfl (hb hby at_125) rfl ?_
              show Steps p.tables e below (T68.setTop (mkF m 126 #[.val (.int p1), .val (.int p2), .val (.int p3), .val (.int p4), .val (.int p5), .val (.int (p1 &&& (3 : Int32))), .val (.int (p2 &&& (31 : Int32))), .val (.ref s_LINUX_SLL), .val (.int (16 : Int32)), .val (.int (14 : Int32)), .val (.ref b62), .unset, .unset, .unset] [(.int (15 : Int32)), (.ref b62)])) _
              refine XS.iloadN X68.here hx rfl (hb hby at_126) rfl ?_
              show Steps p.tables e below (T68.setTop (mkF m 127 #[.val (.int p1), .val (.int p2), .val (.int p3), .val (.int p4), .val (.int p5), .val (.int (p1 &&& (3 : Int32))), .val (.int (p2 &&& (31 : Int32))), .val (.ref s_LINUX_SLL), .val (.int (16 : Int32)), .val (.int (14 : Int32)), .val (.ref b62), .unset, .unset, .unset] [(.int p4), (.int (15 : Int32)), (.ref b62)])) _
              refine XS.i2b X68.here hx rfl (hb hby at_127) rfl ?_
              show Steps p.tables e below (T68.setTop (mkF m 128 #[.val (.int p1), .val (.int p2), .val (.int p3), .val (.int p4), .val (.int p5), .val (.int (p1 &&& (3 : Int32))), .val (.int (p2 &&& (31 : Int32))), .val (.ref s_LINUX_SLL), .val (.int (16 : Int32)), .val (.int (14 : Int32)), .val (.ref b62), .unset, .unset, .unset] [(.int (p4.toInt8.toInt32)), (.int (15 : Int32)), (.ref b62)])) _
              refine st75 _ ?_
              exact k)⟩
          · exact ⟨_, _, _, X68, e68, N68, (Keep.refl _ [b62]), (by rw [show (m0_73_0 p2 p3 p4) = (m0_68_0 p2 p3) from by first | (rw [m0_73_0, if_neg hc74]; done) | (simp only [m0_73_0, if_neg hc74]; done) | rfl]; exact P68_0), fun t k => pre72 t (by
              show Steps p.tables e below (T68.setTop (mkF m 117 #[.val (.int p1), .val (.int p2), .val (.int p3), .val (.int p4), .val (.int p5), .val (.int (p1 &&& (3 : Int32))), .val (.int (p2 &&& (31 : Int32))), .val (.ref s_LINUX_SLL), .val (.int (16 : Int32)), .val (.int (14 : Int32)), .val (.ref b62), .unset, .unset, .unset] [(.int (p2 &&& (31 : Int32))), (.int (15 : Int32))])) _
              refine XS.icmpYes X68.here hx rfl (pc0 := 117) (pc' := 129) rfl (hb hby at_117) rfl (flt hc74).2.1 (by decide) (by decide) ?_
              exact k)⟩
        have K76 : Keep h0 h73 [] := K71.trans Kj73 (allS (Or.inr sz_b62) all0)
        have pre77 : ∀ t, Steps p.tables e below (T73.setTop (mkF m 133 #[.val (.int p1), .val (.int p2), .val (.int p3), .val (.int p4), .val (.int p5), .val (.int (p1 &&& (3 : Int32))), .val (.int (p2 &&& (31 : Int32))), .val (.ref s_LINUX_SLL), .val (.int (16 : Int32)), .val (.int (14 : Int32)), .val (.ref b62), .unset, .unset, .unset] [(.int (p2 &&& (31 : Int32))), (.int (16 : Int32))])) t → Steps p.tables e below (s₁.setTop (entryFrame m #[(.int p1), (.int p2), (.int p3), (.int p4), (.int p5)] maxLocals)) t := fun t k => pre73 t (by
          show Steps p.tables e below (T73.setTop (mkF m 129 #[.val (.int p1), .val (.int p2), .val (.int p3), .val (.int p4), .val (.int p5), .val (.int (p1 &&& (3 : Int32))), .val (.int (p2 &&& (31 : Int32))), .val (.ref s_LINUX_SLL), .val (.int (16 : Int32)), .val (.int (14 : Int32)), .val (.ref b62), .unset, .unset, .unset] [])) _
          refine XS.iload X73.here hx rfl (hb hby at_129) rfl ?_
          show Steps p.tables e below (T73.setTop (mkF m 131 #[.val (.int p1), .val (.int p2), .val (.int p3), .val (.int p4), .val (.int p5), .val (.int (p1 &&& (3 : Int32))), .val (.int (p2 &&& (31 : Int32))), .val (.ref s_LINUX_SLL), .val (.int (16 : Int32)), .val (.int (14 : Int32)), .val (.ref b62), .unset, .unset, .unset] [(.int (16 : Int32))])) _
          refine XS.iload X73.here hx rfl (hb hby at_131) rfl ?_
          exact k)
        obtain ⟨T78, locs78, h78, X78, e78, N78, Kj78, P78_0, pre78⟩ : ∃ (T' : State) (locs' : List Loc) (h' : Heap), Stand p l e room_1 s m #[(.int p1), (.int p2), (.int p3), (.int p4), (.int p5)] below meth c T' locs' 1 31 ∧ T'.heap = h' ∧ Fr n0 locs' ∧ Keep h73 h' [b62] ∧ AI Z h' b62 .byte (p2 &&& (31 : Int32)) (m0_78_0 p2 p3 p4 p5) ∧ ∀ t, Steps p.tables e below (T'.setTop (mkF m 144 #[.val (.int p1), .val (.int p2), .val (.int p3), .val (.int p4), .val (.int p5), .val (.int (p1 &&& (3 : Int32))), .val (.int (p2 &&& (31 : Int32))), .val (.ref s_LINUX_SLL), .val (.int (16 : Int32)), .val (.int (14 : Int32)), .val (.ref b62), .unset, .unset, .unset] [])) t → Steps p.tables e below (s₁.setTop (entryFrame m #[(.int p1), (.int p2), (.int p3), (.int p4), (.int p5)] maxLocals)) t := by
          by_cases hc79 : (16 : Int32) < (p2 &&& (31 : Int32))
          · obtain ⟨cl80, A80, S80, M80, G80⟩ := id P73_0
            have hin80 : ¬ ((16 : Int32) < 0 ∨ cl80.slots.size ≤ ((16 : Int32)).toNatClampNeg) := inb_of S80 (⟨by decide, hc79⟩)
            obtain ⟨T80, h80, X80, e80, W80, st80⟩ := stB X73 hx hZ e73 A80 (j := (16 : Int32)) hin80 (g := (mkF m 143 #[.val (.int p1), .val (.int p2), .val (.int p3), .val (.int p4), .val (.int p5), .val (.int (p1 &&& (3 : Int32))), .val (.int (p2 &&& (31 : Int32))), .val (.ref s_LINUX_SLL), .val (.int (16 : Int32)), .val (.int (14 : Int32)), .val (.ref b62), .unset, .unset, .unset] [(.int (p5.toInt8.toInt32)), (.int (16 : Int32)), (.ref b62)])) rfl rfl (hb hby at_143)
            have V80 : AI Z h80 b62 .byte (p2 &&& (31 : Int32)) (fun i => if i = 16 then ((p5.toInt8.toInt32).toInt8.toInt32) else (m0_73_0 p2 p3 p4) i) := AI.set A80 S80 M80 G80 W80
            have K80 : Keep h0 h80 [] := K76.wr W80 (Or.inr sz_b62)
            have N80 := Fr.snoc X80 N73 g_b62
            exact ⟨_, _, _, X80, e80, N80, ((Keep.refl _ [b62]).wr W80 (Or.inl (List.mem_of_getElem? (i := 0) rfl))), (by rw [show (m0_78_0 p2 p3 p4 p5) = (fun i => if i = 16 then ((p5.toInt8.toInt32).toInt8.toInt32) else (m0_73_0 p2 p3 p4) i) from by first | (rw [m0_78_0, if_pos hc79]; done) | (simp only [m0_78_0, if_pos hc79]; done) | rfl]; exact V80), fun t k => pre77 t (by
              show Steps p.tables e below (T73.setTop (mkF m 133 #[.val (.int p1), .val (.int p2), .val (.int p3), .val (.int p4), .val (.int p5), .val (.int (p1 &&& (3 : Int32))), .val (.int (p2 &&& (31 : Int32))), .val (.ref s_LINUX_SLL), .val (.int (16 : Int32)), .val (.int (14 : Int32)), .val (.ref b62), .unset, .unset, .unset] [(.int (p2 &&& (31 : Int32))), (.int (16 : Int32))])) _
              refine XS.icmpNo X73.here hx rfl (hb hby at_133) rfl (tlt hc79).2.1 ?_
              show Steps p.tables e below (T73.setTop (mkF m 136 #[.val (.int p1), .val (.int p2), .val (.int p3), .val (.int p4), .val (.int p5), .val (.int (p1 &&& (3 : Int32))), .val (.int (p2 &&& (31 : Int32))), .val (.ref s_LINUX_SLL), .val (.int (16 : Int32)), .val (.int (14 : Int32)), .val (.ref b62), .unset, .unset, .unset] [])) _
              refine XS.aload X73.here hx rfl (hb hby at_136) rfl rfl ?_
              show Steps p.tables e below (T73.setTop (mkF m 138 #[.val (.int p1), .val (.int p2), .val (.int p3), .val (.int p4), .val (.int p5), .val (.int (p1 &&& (3 : Int32))), .val (.int (p2 &&& (31 : Int32))), .val (.ref s_LINUX_SLL), .val (.int (16 : Int32)), .val (.int (14 : Int32)), .val (.ref b62), .unset, .unset, .unset] [(.ref b62)])) _
              refine XS.iload X73.here hx rfl (hb hby at_138) rfl ?_
              show Steps p.tables e below (T73.setTop (mkF m 140 #[.val (.int p1), .val (.int p2), .val (.int p3), .val (.int p4), .val (.int p5), .val (.int (p1 &&& (3 : Int32))), .val (.int (p2 &&& (31 : Int32))), .val (.ref s_LINUX_SLL), .val (.int (16 : Int32)), .val (.int (14 : Int32)), .val (.ref b62), .unset, .unset, .unset] [(.int (16 : Int32)), (.ref b62)])) _
              refine XS.iload X73.here hx rfl (hb hby at_140) rfl ?_
              show Steps p.tables e below (T73.setTop (mkF m 142 #[.val (.int p1), .val (.int p2), .val (.int p3), .val (.int p4), .val (.int p5), .val (.int (p1 &&& (3 : Int32))), .val (.int (p2 &&& (31 : Int32))), .val (.ref s_LINUX_SLL), .val (.int (16 : Int32)), .val (.int (14 : Int32)), .val (.ref b62), .unset, .unset, .unset] [(.int p5), (.int (16 : Int32)), (.ref b62)])) _
              refine XS.i2b X73.here hx rfl (hb hby at_142) rfl ?_
              show Steps p.tables e below (T73.setTop (mkF m 143 #[.val (.int p1), .val (.int p2), .val (.int p3), .val (.int p4), .val (.int p5), .val (.int (p1 &&& (3 : Int32))), .val (.int (p2 &&& (31 : Int32))), .val (.ref s_LINUX_SLL), .val (.int (16 : Int32)), .val (.int (14 : Int32)), .val (.ref b62), .unset, .unset, .unset] [(.int (p5.toInt8.toInt32)), (.int (16 : Int32)), (.ref b62)])) _
              refine st80 _ ?_
              exact k)⟩
          · exact ⟨_, _, _, X73, e73, N73, (Keep.refl _ [b62]), (by rw [show (m0_78_0 p2 p3 p4 p5) = (m0_73_0 p2 p3 p4) from by first | (rw [m0_78_0, if_neg hc79]; done) | (simp only [m0_78_0, if_neg hc79]; done) | rfl]; exact P73_0), fun t k => pre77 t (by
              show Steps p.tables e below (T73.setTop (mkF m 133 #[.val (.int p1), .val (.int p2), .val (.int p3), .val (.int p4), .val (.int p5), .val (.int (p1 &&& (3 : Int32))), .val (.int (p2 &&& (31 : Int32))), .val (.ref s_LINUX_SLL), .val (.int (16 : Int32)), .val (.int (14 : Int32)), .val (.ref b62), .unset, .unset, .unset] [(.int (p2 &&& (31 : Int32))), (.int (16 : Int32))])) _
              refine XS.icmpYes X73.here hx rfl (pc0 := 133) (pc' := 144) rfl (hb hby at_133) rfl (flt hc79).2.1 (by decide) (by decide) ?_
              exact k)⟩
        have K81 : Keep h0 h78 [] := K76.trans Kj78 (allS (Or.inr sz_b62) all0)
        have O82 := ((((O0.ext E62).keep Kj68 (allS g_b62 all0)).keep Kj73 (allS g_b62 all0)).keep Kj78 (allS g_b62 all0))
        obtain ⟨cq83, kq83, q83a, q83b, q83c⟩ := isOf hZ e78 (zE_s_LINUX_SLL.ext O82.2)
        obtain ⟨_, _, ⟨T83, L83, k83, n83⟩, -, X83, ⟨Lc83, hQ83, l83, y83, z83⟩, st83⟩ := X78.virtualBack hx (y := (⟨"com/example/waymark/waymark/cli/LinkType", "ipVersion", "([B)I"⟩ : MethodName)) (z := (⟨"com/example/waymark/waymark/cli/LinkType", "ipVersion", "([B)I"⟩ : MethodName)) hown (mvT hZ (hw _ (List.mem_of_getElem? (i := 4) rfl))) (mvT hZ (hw _ (List.mem_of_getElem? (i := 5) rfl))) (notFace_of_selects (args := #[]) (mvT hZ (hw _ (List.mem_of_getElem? (i := 7) rfl)))) (mvT hZ (hw _ (List.mem_of_getElem? (i := 7) rfl))) (mvT hZ (hw _ (List.mem_of_getElem? (i := 6) rfl))) (by decide) (backOf (W := 0) (rm1 l Z a0 hw [] s_LINUX_SLL b62 (16 : Int32) (14 : Int32) (p2 &&& (31 : Int32)) (m0_78_0 p2 p3 p4 p5) h78 n0 (Nat.le_trans Z0 K81.1) (zF_s_LINUX_SLL_headerLength.ext O82.2) (zF_s_LINUX_SLL_protocolOffset.ext O82.2) P78_0 (by decide : ¬ (16 : Int32) < 0) (by decide : ¬ (14 : Int32) < 0 → (14 : Int32) < (16 : Int32) ∧ (14 : Int32) + (1 : Int32) < (16 : Int32) ∧ ¬ (14 : Int32) + (1 : Int32) < 0)) hZ (hw _ (List.mem_of_getElem? (i := 8) rfl)) (hw _ (List.mem_of_getElem? (i := 1) rfl)) (by decide) (by decide)) q83a q83c (g := (mkF m 148 #[.val (.int p1), .val (.int p2), .val (.int p3), .val (.int p4), .val (.int p5), .val (.int (p1 &&& (3 : Int32))), .val (.int (p2 &&& (31 : Int32))), .val (.ref s_LINUX_SLL), .val (.int (16 : Int32)), .val (.int (14 : Int32)), .val (.ref b62), .unset, .unset, .unset] [(.ref b62), (.ref s_LINUX_SLL)])) rfl (by rw [hml]; rfl) (Steps.refl _) (argsL := [(.ref b62)]) (rest := []) (lenOf pd_0 rfl) rfl (by show 2 * 0 + _ ≤ _; exact Nat.le_of_eq rfl) (hb hby at_148) (fun _ _ => ⟨rfl, e78, (by decide : 1 + 0 ≤ _), (by decide : 31 + 0 ≤ _)⟩)
        dsimp only [Pt.U, Pt.locs, Pt.cells, Pt.slots] at X83 l83 y83 z83 st83 hQ83
        subst l83 y83 z83
        obtain ⟨rfl, N83q, e83⟩ := hQ83
        have N83 := Fr.app N78 N83q
        have pre84 : ∀ t, Steps p.tables e below (T83.setTop (mkF m 157 #[.val (.int p1), .val (.int p2), .val (.int p3), .val (.int p4), .val (.int p5), .val (.int (p1 &&& (3 : Int32))), .val (.int (p2 &&& (31 : Int32))), .val (.ref s_LINUX_SLL), .val (.int (16 : Int32)), .val (.int (14 : Int32)), .val (.ref b62), .val (.int (f1 (16 : Int32) (14 : Int32) (p2 &&& (31 : Int32)) (m0_78_0 p2 p3 p4 p5))), .unset, .unset] [(.int (16 : Int32)), (.int (p2 &&& (31 : Int32)))])) t → Steps p.tables e below (s₁.setTop (entryFrame m #[(.int p1), (.int p2), (.int p3), (.int p4), (.int p5)] maxLocals)) t := fun t k => pre78 t (by
          show Steps p.tables e below (T78.setTop (mkF m 144 #[.val (.int p1), .val (.int p2), .val (.int p3), .val (.int p4), .val (.int p5), .val (.int (p1 &&& (3 : Int32))), .val (.int (p2 &&& (31 : Int32))), .val (.ref s_LINUX_SLL), .val (.int (16 : Int32)), .val (.int (14 : Int32)), .val (.ref b62), .unset, .unset, .unset] [])) _
          refine XS.aload X78.here hx rfl (hb hby at_144) rfl rfl ?_
          show Steps p.tables e below (T78.setTop (mkF m 146 #[.val (.int p1), .val (.int p2), .val (.int p3), .val (.int p4), .val (.int p5), .val (.int (p1 &&& (3 : Int32))), .val (.int (p2 &&& (31 : Int32))), .val (.ref s_LINUX_SLL), .val (.int (16 : Int32)), .val (.int (14 : Int32)), .val (.ref b62), .unset, .unset, .unset] [(.ref s_LINUX_SLL)])) _
          refine XS.aload X78.here hx rfl (hb hby at_146) rfl rfl ?_
          show Steps p.tables e below (T78.setTop (mkF m 148 #[.val (.int p1), .val (.int p2), .val (.int p3), .val (.int p4), .val (.int p5), .val (.int (p1 &&& (3 : Int32))), .val (.int (p2 &&& (31 : Int32))), .val (.ref s_LINUX_SLL), .val (.int (16 : Int32)), .val (.int (14 : Int32)), .val (.ref b62), .unset, .unset, .unset] [(.ref b62), (.ref s_LINUX_SLL)])) _
          refine st83.trans ?_
          show Steps p.tables e below (T83.setTop (mkF m 151 #[.val (.int p1), .val (.int p2), .val (.int p3), .val (.int p4), .val (.int p5), .val (.int (p1 &&& (3 : Int32))), .val (.int (p2 &&& (31 : Int32))), .val (.ref s_LINUX_SLL), .val (.int (16 : Int32)), .val (.int (14 : Int32)), .val (.ref b62), .unset, .unset, .unset] [(.int (f1 (16 : Int32) (14 : Int32) (p2 &&& (31 : Int32)) (m0_78_0 p2 p3 p4 p5)))])) _
          refine XS.istore X83.here hx rfl (hb hby at_151) rfl (l' := #[.val (.int p1), .val (.int p2), .val (.int p3), .val (.int p4), .val (.int p5), .val (.int (p1 &&& (3 : Int32))), .val (.int (p2 &&& (31 : Int32))), .val (.ref s_LINUX_SLL), .val (.int (16 : Int32)), .val (.int (14 : Int32)), .val (.ref b62), .val (.int (f1 (16 : Int32) (14 : Int32) (p2 &&& (31 : Int32)) (m0_78_0 p2 p3 p4 p5))), .unset, .unset]) rfl ?_
          show Steps p.tables e below (T83.setTop (mkF m 153 #[.val (.int p1), .val (.int p2), .val (.int p3), .val (.int p4), .val (.int p5), .val (.int (p1 &&& (3 : Int32))), .val (.int (p2 &&& (31 : Int32))), .val (.ref s_LINUX_SLL), .val (.int (16 : Int32)), .val (.int (14 : Int32)), .val (.ref b62), .val (.int (f1 (16 : Int32) (14 : Int32) (p2 &&& (31 : Int32)) (m0_78_0 p2 p3 p4 p5))), .unset, .unset] [])) _
          refine XS.iload X83.here hx rfl (hb hby at_153) rfl ?_
          show Steps p.tables e below (T83.setTop (mkF m 155 #[.val (.int p1), .val (.int p2), .val (.int p3), .val (.int p4), .val (.int p5), .val (.int (p1 &&& (3 : Int32))), .val (.int (p2 &&& (31 : Int32))), .val (.ref s_LINUX_SLL), .val (.int (16 : Int32)), .val (.int (14 : Int32)), .val (.ref b62), .val (.int (f1 (16 : Int32) (14 : Int32) (p2 &&& (31 : Int32)) (m0_78_0 p2 p3 p4 p5))), .unset, .unset] [(.int (p2 &&& (31 : Int32)))])) _
          refine XS.iload X83.here hx rfl (hb hby at_155) rfl ?_
          exact k)
        have pre85 : ∀ t, Steps p.tables e below (T83.setTop (mkF m 231 #[.val (.int p1), .val (.int p2), .val (.int p3), .val (.int p4), .val (.int p5), .val (.int (p1 &&& (3 : Int32))), .val (.int (p2 &&& (31 : Int32))), .val (.ref s_LINUX_SLL), .val (.int (16 : Int32)), .val (.int (14 : Int32)), .val (.ref b62), .val (.int (f1 (16 : Int32) (14 : Int32) (p2 &&& (31 : Int32)) (m0_78_0 p2 p3 p4 p5))), .val (.int (m0_85_0 p2 p3 p4)), (m0_85_1 p2 p3 p4)] [])) t → Steps p.tables e below (s₁.setTop (entryFrame m #[(.int p1), (.int p2), (.int p3), (.int p4), (.int p5)] maxLocals)) t := by
          intro t k
          by_cases hc86 : (16 : Int32) < (p2 &&& (31 : Int32))
          · have pre87 : ∀ t, Steps p.tables e below (T83.setTop (mkF m 205 #[.val (.int p1), .val (.int p2), .val (.int p3), .val (.int p4), .val (.int p5), .val (.int (p1 &&& (3 : Int32))), .val (.int (p2 &&& (31 : Int32))), .val (.ref s_LINUX_SLL), .val (.int (16 : Int32)), .val (.int (14 : Int32)), .val (.ref b62), .val (.int (f1 (16 : Int32) (14 : Int32) (p2 &&& (31 : Int32)) (m0_78_0 p2 p3 p4 p5))), .unset, .val (.int (((p3 &&& (255 : Int32)) <<< ((8 : Int32) &&& 31)) ||| (p4 &&& (255 : Int32))))] [(.int (2048 : Int32)), (.int (((p3 &&& (255 : Int32)) <<< ((8 : Int32) &&& 31)) ||| (p4 &&& (255 : Int32))))])) t → Steps p.tables e below (s₁.setTop (entryFrame m #[(.int p1), (.int p2), (.int p3), (.int p4), (.int p5)] maxLocals)) t := fun t k => pre84 t (by
              show Steps p.tables e below (T83.setTop (mkF m 157 #[.val (.int p1), .val (.int p2), .val (.int p3), .val (.int p4), .val (.int p5), .val (.int (p1 &&& (3 : Int32))), .val (.int (p2 &&& (31 : Int32))), .val (.ref s_LINUX_SLL), .val (.int (16 : Int32)), .val (.int (14 : Int32)), .val (.ref b62), .val (.int (f1 (16 : Int32) (14 : Int32) (p2 &&& (31 : Int32)) (m0_78_0 p2 p3 p4 p5))), .unset, .unset] [(.int (16 : Int32)), (.int (p2 &&& (31 : Int32)))])) _
              refine XS.icmpYes X83.here hx rfl (pc0 := 157) (pc' := 166) rfl (hb hby at_157) rfl (tlt hc86).2.2.1 (by decide) (by decide) ?_
              show Steps p.tables e below (T83.setTop (mkF m 166 #[.val (.int p1), .val (.int p2), .val (.int p3), .val (.int p4), .val (.int p5), .val (.int (p1 &&& (3 : Int32))), .val (.int (p2 &&& (31 : Int32))), .val (.ref s_LINUX_SLL), .val (.int (16 : Int32)), .val (.int (14 : Int32)), .val (.ref b62), .val (.int (f1 (16 : Int32) (14 : Int32) (p2 &&& (31 : Int32)) (m0_78_0 p2 p3 p4 p5))), .unset, .unset] [])) _
              refine XS.iload X83.here hx rfl (hb hby at_166) rfl ?_
              show Steps p.tables e below (T83.setTop (mkF m 168 #[.val (.int p1), .val (.int p2), .val (.int p3), .val (.int p4), .val (.int p5), .val (.int (p1 &&& (3 : Int32))), .val (.int (p2 &&& (31 : Int32))), .val (.ref s_LINUX_SLL), .val (.int (16 : Int32)), .val (.int (14 : Int32)), .val (.ref b62), .val (.int (f1 (16 : Int32) (14 : Int32) (p2 &&& (31 : Int32)) (m0_78_0 p2 p3 p4 p5))), .unset, .unset] [(.int (14 : Int32))])) _
              refine XS.ifYes X83.here hx rfl (pc0 := 168) (pc' := 184) rfl (hb hby at_168) rfl ((if0 _ _).trans (flt (by decide : ¬ ((14 : Int32) < (0 : Int32)))).2.1) (by decide) (by decide) ?_
              show Steps p.tables e below (T83.setTop (mkF m 184 #[.val (.int p1), .val (.int p2), .val (.int p3), .val (.int p4), .val (.int p5), .val (.int (p1 &&& (3 : Int32))), .val (.int (p2 &&& (31 : Int32))), .val (.ref s_LINUX_SLL), .val (.int (16 : Int32)), .val (.int (14 : Int32)), .val (.ref b62), .val (.int (f1 (16 : Int32) (14 : Int32) (p2 &&& (31 : Int32)) (m0_78_0 p2 p3 p4 p5))), .unset, .unset] [])) _
              refine XS.iloadN X83.here hx rfl (hb hby at_184) rfl ?_
              show Steps p.tables e below (T83.setTop (mkF m 185 #[.val (.int p1), .val (.int p2), .val (.int p3), .val (.int p4), .val (.int p5), .val (.int (p1 &&& (3 : Int32))), .val (.int (p2 &&& (31 : Int32))), .val (.ref s_LINUX_SLL), .val (.int (16 : Int32)), .val (.int (14 : Int32)), .val (.ref b62), .val (.int (f1 (16 : Int32) (14 : Int32) (p2 &&& (31 : Int32)) (m0_78_0 p2 p3 p4 p5))), .unset, .unset] [(.int p3)])) _
              refine XS.sipush X83.here hx rfl (hb hby at_185) ?_
              show Steps p.tables e below (T83.setTop (mkF m 188 #[.val (.int p1), .val (.int p2), .val (.int p3), .val (.int p4), .val (.int p5), .val (.int (p1 &&& (3 : Int32))), .val (.int (p2 &&& (31 : Int32))), .val (.ref s_LINUX_SLL), .val (.int (16 : Int32)), .val (.int (14 : Int32)), .val (.ref b62), .val (.int (f1 (16 : Int32) (14 : Int32) (p2 &&& (31 : Int32)) (m0_78_0 p2 p3 p4 p5))), .unset, .unset] [(.int (255 : Int32)), (.int p3)])) _
              refine XS.iand X83.here hx rfl (hb hby at_188) rfl ?_
              show Steps p.tables e below (T83.setTop (mkF m 189 #[.val (.int p1), .val (.int p2), .val (.int p3), .val (.int p4), .val (.int p5), .val (.int (p1 &&& (3 : Int32))), .val (.int (p2 &&& (31 : Int32))), .val (.ref s_LINUX_SLL), .val (.int (16 : Int32)), .val (.int (14 : Int32)), .val (.ref b62), .val (.int (f1 (16 : Int32) (14 : Int32) (p2 &&& (31 : Int32)) (m0_78_0 p2 p3 p4 p5))), .unset, .unset] [(.int (p3 &&& (255 : Int32)))])) _
              refine XS.bipush X83.here hx rfl (hb hby at_189) ?_
              show Steps p.tables e below (T83.setTop (mkF m 191 #[.val (.int p1), .val (.int p2), .val (.int p3), .val (.int p4), .val (.int p5), .val (.int (p1 &&& (3 : Int32))), .val (.int (p2 &&& (31 : Int32))), .val (.ref s_LINUX_SLL), .val (.int (16 : Int32)), .val (.int (14 : Int32)), .val (.ref b62), .val (.int (f1 (16 : Int32) (14 : Int32) (p2 &&& (31 : Int32)) (m0_78_0 p2 p3 p4 p5))), .unset, .unset] [(.int (8 : Int32)), (.int (p3 &&& (255 : Int32)))])) _
              refine XS.ishl X83.here hx rfl (hb hby at_191) rfl ?_
              show Steps p.tables e below (T83.setTop (mkF m 192 #[.val (.int p1), .val (.int p2), .val (.int p3), .val (.int p4), .val (.int p5), .val (.int (p1 &&& (3 : Int32))), .val (.int (p2 &&& (31 : Int32))), .val (.ref s_LINUX_SLL), .val (.int (16 : Int32)), .val (.int (14 : Int32)), .val (.ref b62), .val (.int (f1 (16 : Int32) (14 : Int32) (p2 &&& (31 : Int32)) (m0_78_0 p2 p3 p4 p5))), .unset, .unset] [(.int ((p3 &&& (255 : Int32)) <<< ((8 : Int32) &&& 31)))])) _
              refine XS.iloadN X83.here hx rfl (hb hby at_192) rfl ?_
              show Steps p.tables e below (T83.setTop (mkF m 193 #[.val (.int p1), .val (.int p2), .val (.int p3), .val (.int p4), .val (.int p5), .val (.int (p1 &&& (3 : Int32))), .val (.int (p2 &&& (31 : Int32))), .val (.ref s_LINUX_SLL), .val (.int (16 : Int32)), .val (.int (14 : Int32)), .val (.ref b62), .val (.int (f1 (16 : Int32) (14 : Int32) (p2 &&& (31 : Int32)) (m0_78_0 p2 p3 p4 p5))), .unset, .unset] [(.int p4), (.int ((p3 &&& (255 : Int32)) <<< ((8 : Int32) &&& 31)))])) _
              refine XS.sipush X83.here hx rfl (hb hby at_193) ?_
              show Steps p.tables e below (T83.setTop (mkF m 196 #[.val (.int p1), .val (.int p2), .val (.int p3), .val (.int p4), .val (.int p5), .val (.int (p1 &&& (3 : Int32))), .val (.int (p2 &&& (31 : Int32))), .val (.ref s_LINUX_SLL), .val (.int (16 : Int32)), .val (.int (14 : Int32)), .val (.ref b62), .val (.int (f1 (16 : Int32) (14 : Int32) (p2 &&& (31 : Int32)) (m0_78_0 p2 p3 p4 p5))), .unset, .unset] [(.int (255 : Int32)), (.int p4), (.int ((p3 &&& (255 : Int32)) <<< ((8 : Int32) &&& 31)))])) _
              refine XS.iand X83.here hx rfl (hb hby at_196) rfl ?_
              show Steps p.tables e below (T83.setTop (mkF m 197 #[.val (.int p1), .val (.int p2), .val (.int p3), .val (.int p4), .val (.int p5), .val (.int (p1 &&& (3 : Int32))), .val (.int (p2 &&& (31 : Int32))), .val (.ref s_LINUX_SLL), .val (.int (16 : Int32)), .val (.int (14 : Int32)), .val (.ref b62), .val (.int (f1 (16 : Int32) (14 : Int32) (p2 &&& (31 : Int32)) (m0_78_0 p2 p3 p4 p5))), .unset, .unset] [(.int (p4 &&& (255 : Int32))), (.int ((p3 &&& (255 : Int32)) <<< ((8 : Int32) &&& 31)))])) _
              refine XS.ior X83.here hx rfl (hb hby at_197) rfl ?_
              show Steps p.tables e below (T83.setTop (mkF m 198 #[.val (.int p1), .val (.int p2), .val (.int p3), .val (.int p4), .val (.int p5), .val (.int (p1 &&& (3 : Int32))), .val (.int (p2 &&& (31 : Int32))), .val (.ref s_LINUX_SLL), .val (.int (16 : Int32)), .val (.int (14 : Int32)), .val (.ref b62), .val (.int (f1 (16 : Int32) (14 : Int32) (p2 &&& (31 : Int32)) (m0_78_0 p2 p3 p4 p5))), .unset, .unset] [(.int (((p3 &&& (255 : Int32)) <<< ((8 : Int32) &&& 31)) ||| (p4 &&& (255 : Int32))))])) _
              refine XS.istore X83.here hx rfl (hb hby at_198) rfl (l' := #[.val (.int p1), .val (.int p2), .val (.int p3), .val (.int p4), .val (.int p5), .val (.int (p1 &&& (3 : Int32))), .val (.int (p2 &&& (31 : Int32))), .val (.ref s_LINUX_SLL), .val (.int (16 : Int32)), .val (.int (14 : Int32)), .val (.ref b62), .val (.int (f1 (16 : Int32) (14 : Int32) (p2 &&& (31 : Int32)) (m0_78_0 p2 p3 p4 p5))), .unset, .val (.int (((p3 &&& (255 : Int32)) <<< ((8 : Int32) &&& 31)) ||| (p4 &&& (255 : Int32))))]) rfl ?_
              show Steps p.tables e below (T83.setTop (mkF m 200 #[.val (.int p1), .val (.int p2), .val (.int p3), .val (.int p4), .val (.int p5), .val (.int (p1 &&& (3 : Int32))), .val (.int (p2 &&& (31 : Int32))), .val (.ref s_LINUX_SLL), .val (.int (16 : Int32)), .val (.int (14 : Int32)), .val (.ref b62), .val (.int (f1 (16 : Int32) (14 : Int32) (p2 &&& (31 : Int32)) (m0_78_0 p2 p3 p4 p5))), .unset, .val (.int (((p3 &&& (255 : Int32)) <<< ((8 : Int32) &&& 31)) ||| (p4 &&& (255 : Int32))))] [])) _
              refine XS.iload X83.here hx rfl (hb hby at_200) rfl ?_
              show Steps p.tables e below (T83.setTop (mkF m 202 #[.val (.int p1), .val (.int p2), .val (.int p3), .val (.int p4), .val (.int p5), .val (.int (p1 &&& (3 : Int32))), .val (.int (p2 &&& (31 : Int32))), .val (.ref s_LINUX_SLL), .val (.int (16 : Int32)), .val (.int (14 : Int32)), .val (.ref b62), .val (.int (f1 (16 : Int32) (14 : Int32) (p2 &&& (31 : Int32)) (m0_78_0 p2 p3 p4 p5))), .unset, .val (.int (((p3 &&& (255 : Int32)) <<< ((8 : Int32) &&& 31)) ||| (p4 &&& (255 : Int32))))] [(.int (((p3 &&& (255 : Int32)) <<< ((8 : Int32) &&& 31)) ||| (p4 &&& (255 : Int32))))])) _
              refine XS.sipush X83.here hx rfl (hb hby at_202) ?_
              exact k)
            by_cases hc88 : (((p3 &&& (255 : Int32)) <<< ((8 : Int32) &&& 31)) ||| (p4 &&& (255 : Int32))) = (2048 : Int32)
            · rw [show (m0_85_0 p2 p3 p4) = (4 : Int32) from by first | (rw [m0_85_0, if_pos hc86, if_pos hc88]; done) | (simp only [m0_85_0, if_pos hc86, if_pos hc88]; done) | rfl] at k
              rw [show (m0_85_1 p2 p3 p4) = .val (.int (((p3 &&& (255 : Int32)) <<< ((8 : Int32) &&& 31)) ||| (p4 &&& (255 : Int32)))) from by first | (rw [m0_85_1, if_pos hc86]; done) | (simp only [m0_85_1, if_pos hc86]; done) | rfl] at k
              refine pre87 t ?_
              show Steps p.tables e below (T83.setTop (mkF m 205 #[.val (.int p1), .val (.int p2), .val (.int p3), .val (.int p4), .val (.int p5), .val (.int (p1 &&& (3 : Int32))), .val (.int (p2 &&& (31 : Int32))), .val (.ref s_LINUX_SLL), .val (.int (16 : Int32)), .val (.int (14 : Int32)), .val (.ref b62), .val (.int (f1 (16 : Int32) (14 : Int32) (p2 &&& (31 : Int32)) (m0_78_0 p2 p3 p4 p5))), .unset, .val (.int (((p3 &&& (255 : Int32)) <<< ((8 : Int32) &&& 31)) ||| (p4 &&& (255 : Int32))))] [(.int (2048 : Int32)), (.int (((p3 &&& (255 : Int32)) <<< ((8 : Int32) &&& 31)) ||| (p4 &&& (255 : Int32))))])) _
              refine XS.icmpNo X83.here hx rfl (hb hby at_205) rfl (teq hc88).2 ?_
              show Steps p.tables e below (T83.setTop (mkF m 208 #[.val (.int p1), .val (.int p2), .val (.int p3), .val (.int p4), .val (.int p5), .val (.int (p1 &&& (3 : Int32))), .val (.int (p2 &&& (31 : Int32))), .val (.ref s_LINUX_SLL), .val (.int (16 : Int32)), .val (.int (14 : Int32)), .val (.ref b62), .val (.int (f1 (16 : Int32) (14 : Int32) (p2 &&& (31 : Int32)) (m0_78_0 p2 p3 p4 p5))), .unset, .val (.int (((p3 &&& (255 : Int32)) <<< ((8 : Int32) &&& 31)) ||| (p4 &&& (255 : Int32))))] [])) _
              refine XS.iconst X83.here hx rfl (hb hby at_208) ?_
              show Steps p.tables e below (T83.setTop (mkF m 209 #[.val (.int p1), .val (.int p2), .val (.int p3), .val (.int p4), .val (.int p5), .val (.int (p1 &&& (3 : Int32))), .val (.int (p2 &&& (31 : Int32))), .val (.ref s_LINUX_SLL), .val (.int (16 : Int32)), .val (.int (14 : Int32)), .val (.ref b62), .val (.int (f1 (16 : Int32) (14 : Int32) (p2 &&& (31 : Int32)) (m0_78_0 p2 p3 p4 p5))), .unset, .val (.int (((p3 &&& (255 : Int32)) <<< ((8 : Int32) &&& 31)) ||| (p4 &&& (255 : Int32))))] [(.int (4 : Int32))])) _
              refine XS.istore X83.here hx rfl (hb hby at_209) rfl (l' := #[.val (.int p1), .val (.int p2), .val (.int p3), .val (.int p4), .val (.int p5), .val (.int (p1 &&& (3 : Int32))), .val (.int (p2 &&& (31 : Int32))), .val (.ref s_LINUX_SLL), .val (.int (16 : Int32)), .val (.int (14 : Int32)), .val (.ref b62), .val (.int (f1 (16 : Int32) (14 : Int32) (p2 &&& (31 : Int32)) (m0_78_0 p2 p3 p4 p5))), .val (.int (4 : Int32)), .val (.int (((p3 &&& (255 : Int32)) <<< ((8 : Int32) &&& 31)) ||| (p4 &&& (255 : Int32))))]) rfl ?_
              show Steps p.tables e below (T83.setTop (mkF m 211 #[.val (.int p1), .val (.int p2), .val (.int p3), .val (.int p4), .val (.int p5), .val (.int (p1 &&& (3 : Int32))), .val (.int (p2 &&& (31 : Int32))), .val (.ref s_LINUX_SLL), .val (.int (16 : Int32)), .val (.int (14 : Int32)), .val (.ref b62), .val (.int (f1 (16 : Int32) (14 : Int32) (p2 &&& (31 : Int32)) (m0_78_0 p2 p3 p4 p5))), .val (.int (4 : Int32)), .val (.int (((p3 &&& (255 : Int32)) <<< ((8 : Int32) &&& 31)) ||| (p4 &&& (255 : Int32))))] [])) _
              refine XS.goto X83.here hx rfl (pc0 := 211) (pc' := 231) rfl (hb hby at_211) (by decide) (by decide) ?_
              exact k
            · have pre89 : ∀ t, Steps p.tables e below (T83.setTop (mkF m 218 #[.val (.int p1), .val (.int p2), .val (.int p3), .val (.int p4), .val (.int p5), .val (.int (p1 &&& (3 : Int32))), .val (.int (p2 &&& (31 : Int32))), .val (.ref s_LINUX_SLL), .val (.int (16 : Int32)), .val (.int (14 : Int32)), .val (.ref b62), .val (.int (f1 (16 : Int32) (14 : Int32) (p2 &&& (31 : Int32)) (m0_78_0 p2 p3 p4 p5))), .unset, .val (.int (((p3 &&& (255 : Int32)) <<< ((8 : Int32) &&& 31)) ||| (p4 &&& (255 : Int32))))] [(.int (34525 : Int32)), (.int (((p3 &&& (255 : Int32)) <<< ((8 : Int32) &&& 31)) ||| (p4 &&& (255 : Int32))))])) t → Steps p.tables e below (s₁.setTop (entryFrame m #[(.int p1), (.int p2), (.int p3), (.int p4), (.int p5)] maxLocals)) t := fun t k => pre87 t (by
                show Steps p.tables e below (T83.setTop (mkF m 205 #[.val (.int p1), .val (.int p2), .val (.int p3), .val (.int p4), .val (.int p5), .val (.int (p1 &&& (3 : Int32))), .val (.int (p2 &&& (31 : Int32))), .val (.ref s_LINUX_SLL), .val (.int (16 : Int32)), .val (.int (14 : Int32)), .val (.ref b62), .val (.int (f1 (16 : Int32) (14 : Int32) (p2 &&& (31 : Int32)) (m0_78_0 p2 p3 p4 p5))), .unset, .val (.int (((p3 &&& (255 : Int32)) <<< ((8 : Int32) &&& 31)) ||| (p4 &&& (255 : Int32))))] [(.int (2048 : Int32)), (.int (((p3 &&& (255 : Int32)) <<< ((8 : Int32) &&& 31)) ||| (p4 &&& (255 : Int32))))])) _
                refine XS.icmpYes X83.here hx rfl (pc0 := 205) (pc' := 214) rfl (hb hby at_205) rfl (feq hc88).2 (by decide) (by decide) ?_
                show Steps p.tables e below (T83.setTop (mkF m 214 #[.val (.int p1), .val (.int p2), .val (.int p3), .val (.int p4), .val (.int p5), .val (.int (p1 &&& (3 : Int32))), .val (.int (p2 &&& (31 : Int32))), .val (.ref s_LINUX_SLL), .val (.int (16 : Int32)), .val (.int (14 : Int32)), .val (.ref b62), .val (.int (f1 (16 : Int32) (14 : Int32) (p2 &&& (31 : Int32)) (m0_78_0 p2 p3 p4 p5))), .unset, .val (.int (((p3 &&& (255 : Int32)) <<< ((8 : Int32) &&& 31)) ||| (p4 &&& (255 : Int32))))] [])) _
                refine XS.iload X83.here hx rfl (hb hby at_214) rfl ?_
                show Steps p.tables e below (T83.setTop (mkF m 216 #[.val (.int p1), .val (.int p2), .val (.int p3), .val (.int p4), .val (.int p5), .val (.int (p1 &&& (3 : Int32))), .val (.int (p2 &&& (31 : Int32))), .val (.ref s_LINUX_SLL), .val (.int (16 : Int32)), .val (.int (14 : Int32)), .val (.ref b62), .val (.int (f1 (16 : Int32) (14 : Int32) (p2 &&& (31 : Int32)) (m0_78_0 p2 p3 p4 p5))), .unset, .val (.int (((p3 &&& (255 : Int32)) <<< ((8 : Int32) &&& 31)) ||| (p4 &&& (255 : Int32))))] [(.int (((p3 &&& (255 : Int32)) <<< ((8 : Int32) &&& 31)) ||| (p4 &&& (255 : Int32))))])) _
                refine X83.ldcInt hx hown (mvT hZ (hw _ (List.mem_of_getElem? (i := 16) rfl))) (g := (mkF m 216 #[.val (.int p1), .val (.int p2), .val (.int p3), .val (.int p4), .val (.int p5), .val (.int (p1 &&& (3 : Int32))), .val (.int (p2 &&& (31 : Int32))), .val (.ref s_LINUX_SLL), .val (.int (16 : Int32)), .val (.int (14 : Int32)), .val (.ref b62), .val (.int (f1 (16 : Int32) (14 : Int32) (p2 &&& (31 : Int32)) (m0_78_0 p2 p3 p4 p5))), .unset, .val (.int (((p3 &&& (255 : Int32)) <<< ((8 : Int32) &&& 31)) ||| (p4 &&& (255 : Int32))))] [(.int (((p3 &&& (255 : Int32)) <<< ((8 : Int32) &&& 31)) ||| (p4 &&& (255 : Int32))))])) rfl (hb hby at_216) _ ?_
                exact k)
              by_cases hc90 : (((p3 &&& (255 : Int32)) <<< ((8 : Int32) &&& 31)) ||| (p4 &&& (255 : Int32))) = (34525 : Int32)
              · rw [show (m0_85_0 p2 p3 p4) = (6 : Int32) from by first | (rw [m0_85_0, if_pos hc86, if_neg hc88, if_pos hc90]; done) | (simp only [m0_85_0, if_pos hc86, if_neg hc88, if_pos hc90]; done) | rfl] at k
                rw [show (m0_85_1 p2 p3 p4) = .val (.int (((p3 &&& (255 : Int32)) <<< ((8 : Int32) &&& 31)) ||| (p4 &&& (255 : Int32)))) from by first | (rw [m0_85_1, if_pos hc86]; done) | (simp only [m0_85_1, if_pos hc86]; done) | rfl] at k
                refine pre89 t ?_
                show Steps p.tables e below (T83.setTop (mkF m 218 #[.val (.int p1), .val (.int p2), .val (.int p3), .val (.int p4), .val (.int p5), .val (.int (p1 &&& (3 : Int32))), .val (.int (p2 &&& (31 : Int32))), .val (.ref s_LINUX_SLL), .val (.int (16 : Int32)), .val (.int (14 : Int32)), .val (.ref b62), .val (.int (f1 (16 : Int32) (14 : Int32) (p2 &&& (31 : Int32)) (m0_78_0 p2 p3 p4 p5))), .unset, .val (.int (((p3 &&& (255 : Int32)) <<< ((8 : Int32) &&& 31)) ||| (p4 &&& (255 : Int32))))] [(.int (34525 : Int32)), (.int (((p3 &&& (255 : Int32)) <<< ((8 : Int32) &&& 31)) ||| (p4 &&& (255 : Int32))))])) _
                refine XS.icmpNo X83.here hx rfl (hb hby at_218) rfl (teq hc90).2 ?_
                show Steps p.tables e below (T83.setTop (mkF m 221 #[.val (.int p1), .val (.int p2), .val (.int p3), .val (.int p4), .val (.int p5), .val (.int (p1 &&& (3 : Int32))), .val (.int (p2 &&& (31 : Int32))), .val (.ref s_LINUX_SLL), .val (.int (16 : Int32)), .val (.int (14 : Int32)), .val (.ref b62), .val (.int (f1 (16 : Int32) (14 : Int32) (p2 &&& (31 : Int32)) (m0_78_0 p2 p3 p4 p5))), .unset, .val (.int (((p3 &&& (255 : Int32)) <<< ((8 : Int32) &&& 31)) ||| (p4 &&& (255 : Int32))))] [])) _
                refine XS.bipush X83.here hx rfl (hb hby at_221) ?_
                show Steps p.tables e below (T83.setTop (mkF m 223 #[.val (.int p1), .val (.int p2), .val (.int p3), .val (.int p4), .val (.int p5), .val (.int (p1 &&& (3 : Int32))), .val (.int (p2 &&& (31 : Int32))), .val (.ref s_LINUX_SLL), .val (.int (16 : Int32)), .val (.int (14 : Int32)), .val (.ref b62), .val (.int (f1 (16 : Int32) (14 : Int32) (p2 &&& (31 : Int32)) (m0_78_0 p2 p3 p4 p5))), .unset, .val (.int (((p3 &&& (255 : Int32)) <<< ((8 : Int32) &&& 31)) ||| (p4 &&& (255 : Int32))))] [(.int (6 : Int32))])) _
                refine XS.istore X83.here hx rfl (hb hby at_223) rfl (l' := #[.val (.int p1), .val (.int p2), .val (.int p3), .val (.int p4), .val (.int p5), .val (.int (p1 &&& (3 : Int32))), .val (.int (p2 &&& (31 : Int32))), .val (.ref s_LINUX_SLL), .val (.int (16 : Int32)), .val (.int (14 : Int32)), .val (.ref b62), .val (.int (f1 (16 : Int32) (14 : Int32) (p2 &&& (31 : Int32)) (m0_78_0 p2 p3 p4 p5))), .val (.int (6 : Int32)), .val (.int (((p3 &&& (255 : Int32)) <<< ((8 : Int32) &&& 31)) ||| (p4 &&& (255 : Int32))))]) rfl ?_
                show Steps p.tables e below (T83.setTop (mkF m 225 #[.val (.int p1), .val (.int p2), .val (.int p3), .val (.int p4), .val (.int p5), .val (.int (p1 &&& (3 : Int32))), .val (.int (p2 &&& (31 : Int32))), .val (.ref s_LINUX_SLL), .val (.int (16 : Int32)), .val (.int (14 : Int32)), .val (.ref b62), .val (.int (f1 (16 : Int32) (14 : Int32) (p2 &&& (31 : Int32)) (m0_78_0 p2 p3 p4 p5))), .val (.int (6 : Int32)), .val (.int (((p3 &&& (255 : Int32)) <<< ((8 : Int32) &&& 31)) ||| (p4 &&& (255 : Int32))))] [])) _
                refine XS.goto X83.here hx rfl (pc0 := 225) (pc' := 231) rfl (hb hby at_225) (by decide) (by decide) ?_
                exact k
              · rw [show (m0_85_0 p2 p3 p4) = (0 : Int32) from by first | (rw [m0_85_0, if_pos hc86, if_neg hc88, if_neg hc90]; done) | (simp only [m0_85_0, if_pos hc86, if_neg hc88, if_neg hc90]; done) | rfl] at k
                rw [show (m0_85_1 p2 p3 p4) = .val (.int (((p3 &&& (255 : Int32)) <<< ((8 : Int32) &&& 31)) ||| (p4 &&& (255 : Int32)))) from by first | (rw [m0_85_1, if_pos hc86]; done) | (simp only [m0_85_1, if_pos hc86]; done) | rfl] at k
                refine pre89 t ?_
                show Steps p.tables e below (T83.setTop (mkF m 218 #[.val (.int p1), .val (.int p2), .val (.int p3), .val (.int p4), .val (.int p5), .val (.int (p1 &&& (3 : Int32))), .val (.int (p2 &&& (31 : Int32))), .val (.ref s_LINUX_SLL), .val (.int (16 : Int32)), .val (.int (14 : Int32)), .val (.ref b62), .val (.int (f1 (16 : Int32) (14 : Int32) (p2 &&& (31 : Int32)) (m0_78_0 p2 p3 p4 p5))), .unset, .val (.int (((p3 &&& (255 : Int32)) <<< ((8 : Int32) &&& 31)) ||| (p4 &&& (255 : Int32))))] [(.int (34525 : Int32)), (.int (((p3 &&& (255 : Int32)) <<< ((8 : Int32) &&& 31)) ||| (p4 &&& (255 : Int32))))])) _
                refine XS.icmpYes X83.here hx rfl (pc0 := 218) (pc' := 228) rfl (hb hby at_218) rfl (feq hc90).2 (by decide) (by decide) ?_
                show Steps p.tables e below (T83.setTop (mkF m 228 #[.val (.int p1), .val (.int p2), .val (.int p3), .val (.int p4), .val (.int p5), .val (.int (p1 &&& (3 : Int32))), .val (.int (p2 &&& (31 : Int32))), .val (.ref s_LINUX_SLL), .val (.int (16 : Int32)), .val (.int (14 : Int32)), .val (.ref b62), .val (.int (f1 (16 : Int32) (14 : Int32) (p2 &&& (31 : Int32)) (m0_78_0 p2 p3 p4 p5))), .unset, .val (.int (((p3 &&& (255 : Int32)) <<< ((8 : Int32) &&& 31)) ||| (p4 &&& (255 : Int32))))] [])) _
                refine XS.iconst X83.here hx rfl (hb hby at_228) ?_
                show Steps p.tables e below (T83.setTop (mkF m 229 #[.val (.int p1), .val (.int p2), .val (.int p3), .val (.int p4), .val (.int p5), .val (.int (p1 &&& (3 : Int32))), .val (.int (p2 &&& (31 : Int32))), .val (.ref s_LINUX_SLL), .val (.int (16 : Int32)), .val (.int (14 : Int32)), .val (.ref b62), .val (.int (f1 (16 : Int32) (14 : Int32) (p2 &&& (31 : Int32)) (m0_78_0 p2 p3 p4 p5))), .unset, .val (.int (((p3 &&& (255 : Int32)) <<< ((8 : Int32) &&& 31)) ||| (p4 &&& (255 : Int32))))] [(.int (0 : Int32))])) _
                refine XS.istore X83.here hx rfl (hb hby at_229) rfl (l' := #[.val (.int p1), .val (.int p2), .val (.int p3), .val (.int p4), .val (.int p5), .val (.int (p1 &&& (3 : Int32))), .val (.int (p2 &&& (31 : Int32))), .val (.ref s_LINUX_SLL), .val (.int (16 : Int32)), .val (.int (14 : Int32)), .val (.ref b62), .val (.int (f1 (16 : Int32) (14 : Int32) (p2 &&& (31 : Int32)) (m0_78_0 p2 p3 p4 p5))), .val (.int (0 : Int32)), .val (.int (((p3 &&& (255 : Int32)) <<< ((8 : Int32) &&& 31)) ||| (p4 &&& (255 : Int32))))]) rfl ?_
                exact k
          · rw [show (m0_85_0 p2 p3 p4) = (0 : Int32) from by first | (rw [m0_85_0, if_neg hc86]; done) | (simp only [m0_85_0, if_neg hc86]; done) | rfl] at k
            rw [show (m0_85_1 p2 p3 p4) = .unset from by first | (rw [m0_85_1, if_neg hc86]; done) | (simp only [m0_85_1, if_neg hc86]; done) | rfl] at k
            refine pre84 t ?_
            show Steps p.tables e below (T83.setTop (mkF m 157 #[.val (.int p1), .val (.int p2), .val (.int p3), .val (.int p4), .val (.int p5), .val (.int (p1 &&& (3 : Int32))), .val (.int (p2 &&& (31 : Int32))), .val (.ref s_LINUX_SLL), .val (.int (16 : Int32)), .val (.int (14 : Int32)), .val (.ref b62), .val (.int (f1 (16 : Int32) (14 : Int32) (p2 &&& (31 : Int32)) (m0_78_0 p2 p3 p4 p5))), .unset, .unset] [(.int (16 : Int32)), (.int (p2 &&& (31 : Int32)))])) _
            refine XS.icmpNo X83.here hx rfl (hb hby at_157) rfl (flt hc86).2.2.1 ?_
            show Steps p.tables e below (T83.setTop (mkF m 160 #[.val (.int p1), .val (.int p2), .val (.int p3), .val (.int p4), .val (.int p5), .val (.int (p1 &&& (3 : Int32))), .val (.int (p2 &&& (31 : Int32))), .val (.ref s_LINUX_SLL), .val (.int (16 : Int32)), .val (.int (14 : Int32)), .val (.ref b62), .val (.int (f1 (16 : Int32) (14 : Int32) (p2 &&& (31 : Int32)) (m0_78_0 p2 p3 p4 p5))), .unset, .unset] [])) _
            refine XS.iconst X83.here hx rfl (hb hby at_160) ?_
            show Steps p.tables e below (T83.setTop (mkF m 161 #[.val (.int p1), .val (.int p2), .val (.int p3), .val (.int p4), .val (.int p5), .val (.int (p1 &&& (3 : Int32))), .val (.int (p2 &&& (31 : Int32))), .val (.ref s_LINUX_SLL), .val (.int (16 : Int32)), .val (.int (14 : Int32)), .val (.ref b62), .val (.int (f1 (16 : Int32) (14 : Int32) (p2 &&& (31 : Int32)) (m0_78_0 p2 p3 p4 p5))), .unset, .unset] [(.int (0 : Int32))])) _
            refine XS.istore X83.here hx rfl (hb hby at_161) rfl (l' := #[.val (.int p1), .val (.int p2), .val (.int p3), .val (.int p4), .val (.int p5), .val (.int (p1 &&& (3 : Int32))), .val (.int (p2 &&& (31 : Int32))), .val (.ref s_LINUX_SLL), .val (.int (16 : Int32)), .val (.int (14 : Int32)), .val (.ref b62), .val (.int (f1 (16 : Int32) (14 : Int32) (p2 &&& (31 : Int32)) (m0_78_0 p2 p3 p4 p5))), .val (.int (0 : Int32)), .unset]) rfl ?_
            show Steps p.tables e below (T83.setTop (mkF m 163 #[.val (.int p1), .val (.int p2), .val (.int p3), .val (.int p4), .val (.int p5), .val (.int (p1 &&& (3 : Int32))), .val (.int (p2 &&& (31 : Int32))), .val (.ref s_LINUX_SLL), .val (.int (16 : Int32)), .val (.int (14 : Int32)), .val (.ref b62), .val (.int (f1 (16 : Int32) (14 : Int32) (p2 &&& (31 : Int32)) (m0_78_0 p2 p3 p4 p5))), .val (.int (0 : Int32)), .unset] [])) _
            refine XS.goto X83.here hx rfl (pc0 := 163) (pc' := 231) rfl (hb hby at_163) (by decide) (by decide) ?_
            exact k
        have pre91 : ∀ t, Steps p.tables e below (T83.setTop (mkF m 235 #[.val (.int p1), .val (.int p2), .val (.int p3), .val (.int p4), .val (.int p5), .val (.int (p1 &&& (3 : Int32))), .val (.int (p2 &&& (31 : Int32))), .val (.ref s_LINUX_SLL), .val (.int (16 : Int32)), .val (.int (14 : Int32)), .val (.ref b62), .val (.int (f1 (16 : Int32) (14 : Int32) (p2 &&& (31 : Int32)) (m0_78_0 p2 p3 p4 p5))), .val (.int (m0_85_0 p2 p3 p4)), (m0_85_1 p2 p3 p4)] [(.int (m0_85_0 p2 p3 p4)), (.int (f1 (16 : Int32) (14 : Int32) (p2 &&& (31 : Int32)) (m0_78_0 p2 p3 p4 p5)))])) t → Steps p.tables e below (s₁.setTop (entryFrame m #[(.int p1), (.int p2), (.int p3), (.int p4), (.int p5)] maxLocals)) t := fun t k => pre85 t (by
          show Steps p.tables e below (T83.setTop (mkF m 231 #[.val (.int p1), .val (.int p2), .val (.int p3), .val (.int p4), .val (.int p5), .val (.int (p1 &&& (3 : Int32))), .val (.int (p2 &&& (31 : Int32))), .val (.ref s_LINUX_SLL), .val (.int (16 : Int32)), .val (.int (14 : Int32)), .val (.ref b62), .val (.int (f1 (16 : Int32) (14 : Int32) (p2 &&& (31 : Int32)) (m0_78_0 p2 p3 p4 p5))), .val (.int (m0_85_0 p2 p3 p4)), (m0_85_1 p2 p3 p4)] [])) _
          refine XS.iload X83.here hx rfl (hb hby at_231) rfl ?_
          show Steps p.tables e below (T83.setTop (mkF m 233 #[.val (.int p1), .val (.int p2), .val (.int p3), .val (.int p4), .val (.int p5), .val (.int (p1 &&& (3 : Int32))), .val (.int (p2 &&& (31 : Int32))), .val (.ref s_LINUX_SLL), .val (.int (16 : Int32)), .val (.int (14 : Int32)), .val (.ref b62), .val (.int (f1 (16 : Int32) (14 : Int32) (p2 &&& (31 : Int32)) (m0_78_0 p2 p3 p4 p5))), .val (.int (m0_85_0 p2 p3 p4)), (m0_85_1 p2 p3 p4)] [(.int (f1 (16 : Int32) (14 : Int32) (p2 &&& (31 : Int32)) (m0_78_0 p2 p3 p4 p5)))])) _
          refine XS.iload X83.here hx rfl (hb hby at_233) rfl ?_
          exact k)
        by_cases hc92 : (f1 (16 : Int32) (14 : Int32) (p2 &&& (31 : Int32)) (m0_78_0 p2 p3 p4 p5)) = (m0_85_0 p2 p3 p4)
        · obtain ⟨fs, hr, hrun, hended, hW, hsame⟩ := X83.leave (v := some (.int (1 : Int32))) (fun h => by rw [Bd.returns] at h; cases h)
          refine ⟨_, _, pre91 _ ?_, hrun, hended, _, _, rfl, ?_, ⟨_, rfl⟩, hW, hsame.mono (by decide) (by decide)⟩
          · show Steps p.tables e below (T83.setTop (mkF m 235 #[.val (.int p1), .val (.int p2), .val (.int p3), .val (.int p4), .val (.int p5), .val (.int (p1 &&& (3 : Int32))), .val (.int (p2 &&& (31 : Int32))), .val (.ref s_LINUX_SLL), .val (.int (16 : Int32)), .val (.int (14 : Int32)), .val (.ref b62), .val (.int (f1 (16 : Int32) (14 : Int32) (p2 &&& (31 : Int32)) (m0_78_0 p2 p3 p4 p5))), .val (.int (m0_85_0 p2 p3 p4)), (m0_85_1 p2 p3 p4)] [(.int (m0_85_0 p2 p3 p4)), (.int (f1 (16 : Int32) (14 : Int32) (p2 &&& (31 : Int32)) (m0_78_0 p2 p3 p4 p5)))])) _
            refine XS.icmpNo X83.here hx rfl (hb hby at_235) rfl (teq hc92).2 ?_
            show Steps p.tables e below (T83.setTop (mkF m 238 #[.val (.int p1), .val (.int p2), .val (.int p3), .val (.int p4), .val (.int p5), .val (.int (p1 &&& (3 : Int32))), .val (.int (p2 &&& (31 : Int32))), .val (.ref s_LINUX_SLL), .val (.int (16 : Int32)), .val (.int (14 : Int32)), .val (.ref b62), .val (.int (f1 (16 : Int32) (14 : Int32) (p2 &&& (31 : Int32)) (m0_78_0 p2 p3 p4 p5))), .val (.int (m0_85_0 p2 p3 p4)), (m0_85_1 p2 p3 p4)] [])) _
            refine XS.iconst X83.here hx rfl (hb hby at_238) ?_
            show Steps p.tables e below (T83.setTop (mkF m 239 #[.val (.int p1), .val (.int p2), .val (.int p3), .val (.int p4), .val (.int p5), .val (.int (p1 &&& (3 : Int32))), .val (.int (p2 &&& (31 : Int32))), .val (.ref s_LINUX_SLL), .val (.int (16 : Int32)), .val (.int (14 : Int32)), .val (.ref b62), .val (.int (f1 (16 : Int32) (14 : Int32) (p2 &&& (31 : Int32)) (m0_78_0 p2 p3 p4 p5))), .val (.int (m0_85_0 p2 p3 p4)), (m0_85_1 p2 p3 p4)] [(.int (1 : Int32))])) _
            refine XS.goto X83.here hx rfl (pc0 := 239) (pc' := 243) rfl (hb hby at_239) (by decide) (by decide) ?_
            show Steps p.tables e below (T83.setTop (mkF m 243 #[.val (.int p1), .val (.int p2), .val (.int p3), .val (.int p4), .val (.int p5), .val (.int (p1 &&& (3 : Int32))), .val (.int (p2 &&& (31 : Int32))), .val (.ref s_LINUX_SLL), .val (.int (16 : Int32)), .val (.int (14 : Int32)), .val (.ref b62), .val (.int (f1 (16 : Int32) (14 : Int32) (p2 &&& (31 : Int32)) (m0_78_0 p2 p3 p4 p5))), .val (.int (m0_85_0 p2 p3 p4)), (m0_85_1 p2 p3 p4)] [(.int (1 : Int32))])) _
            exact retN X83 hx (t := .boolean) Bd.returns (by simp) (hb hby at_243) hr
          · show Q0 Z p1 p2 p3 p4 p5 s_ETHERNET s_LINUX_SLL2 s_LINUX_SLL s_RAW h0 n0 _ T83.heap _
            rw [e83]
            exact ⟨by rw [show (f0 p1 p2 p3 p4 p5) = (1 : Int32) from by first | (rw [f0, if_neg hc2, if_neg hc38, if_pos hc60, if_pos hc92]; done) | (simp only [f0, if_neg hc2, if_neg hc38, if_pos hc60, if_pos hc92]; done) | rfl], N83⟩
        · obtain ⟨fs, hr, hrun, hended, hW, hsame⟩ := X83.leave (v := some (.int (0 : Int32))) (fun h => by rw [Bd.returns] at h; cases h)
          refine ⟨_, _, pre91 _ ?_, hrun, hended, _, _, rfl, ?_, ⟨_, rfl⟩, hW, hsame.mono (by decide) (by decide)⟩
          · show Steps p.tables e below (T83.setTop (mkF m 235 #[.val (.int p1), .val (.int p2), .val (.int p3), .val (.int p4), .val (.int p5), .val (.int (p1 &&& (3 : Int32))), .val (.int (p2 &&& (31 : Int32))), .val (.ref s_LINUX_SLL), .val (.int (16 : Int32)), .val (.int (14 : Int32)), .val (.ref b62), .val (.int (f1 (16 : Int32) (14 : Int32) (p2 &&& (31 : Int32)) (m0_78_0 p2 p3 p4 p5))), .val (.int (m0_85_0 p2 p3 p4)), (m0_85_1 p2 p3 p4)] [(.int (m0_85_0 p2 p3 p4)), (.int (f1 (16 : Int32) (14 : Int32) (p2 &&& (31 : Int32)) (m0_78_0 p2 p3 p4 p5)))])) _
            refine XS.icmpYes X83.here hx rfl (pc0 := 235) (pc' := 242) rfl (hb hby at_235) rfl (feq hc92).2 (by decide) (by decide) ?_
            show Steps p.tables e below (T83.setTop (mkF m 242 #[.val (.int p1), .val (.int p2), .val (.int p3), .val (.int p4), .val (.int p5), .val (.int (p1 &&& (3 : Int32))), .val (.int (p2 &&& (31 : Int32))), .val (.ref s_LINUX_SLL), .val (.int (16 : Int32)), .val (.int (14 : Int32)), .val (.ref b62), .val (.int (f1 (16 : Int32) (14 : Int32) (p2 &&& (31 : Int32)) (m0_78_0 p2 p3 p4 p5))), .val (.int (m0_85_0 p2 p3 p4)), (m0_85_1 p2 p3 p4)] [])) _
            refine XS.iconst X83.here hx rfl (hb hby at_242) ?_
            show Steps p.tables e below (T83.setTop (mkF m 243 #[.val (.int p1), .val (.int p2), .val (.int p3), .val (.int p4), .val (.int p5), .val (.int (p1 &&& (3 : Int32))), .val (.int (p2 &&& (31 : Int32))), .val (.ref s_LINUX_SLL), .val (.int (16 : Int32)), .val (.int (14 : Int32)), .val (.ref b62), .val (.int (f1 (16 : Int32) (14 : Int32) (p2 &&& (31 : Int32)) (m0_78_0 p2 p3 p4 p5))), .val (.int (m0_85_0 p2 p3 p4)), (m0_85_1 p2 p3 p4)] [(.int (0 : Int32))])) _
            exact retN X83 hx (t := .boolean) Bd.returns (by simp) (hb hby at_243) hr
          · show Q0 Z p1 p2 p3 p4 p5 s_ETHERNET s_LINUX_SLL2 s_LINUX_SLL s_RAW h0 n0 _ T83.heap _
            rw [e83]
            exact ⟨by rw [show (f0 p1 p2 p3 p4 p5) = (0 : Int32) from by first | (rw [f0, if_neg hc2, if_neg hc38, if_pos hc60, if_neg hc92]; done) | (simp only [f0, if_neg hc2, if_neg hc38, if_pos hc60, if_neg hc92]; done) | rfl], N83⟩
      · obtain ⟨T95, X95, e95, st95⟩ := getS2 X0 hx hZ hown (host := "") (Or.inl (hw _ (List.mem_of_getElem? (i := 11) rfl))) Via.refl e0 (zS_LINUX_SLL2.ext O0.2) (g := (mkF m 74 #[.val (.int p1), .val (.int p2), .val (.int p3), .val (.int p4), .val (.int p5), .val (.int (p1 &&& (3 : Int32))), .val (.int (p2 &&& (31 : Int32))), .unset, .unset, .unset, .unset, .unset, .unset, .unset] [])) rfl (hb hby at_74)
        obtain ⟨T96, h96, k96, X96, e96, E96, A96, st96⟩ := newP X95 hx hZ (hw _ (List.mem_of_getElem? (i := 3) rfl)) e95 (g := (mkF m 88 #[.val (.int p1), .val (.int p2), .val (.int p3), .val (.int p4), .val (.int p5), .val (.int (p1 &&& (3 : Int32))), .val (.int (p2 &&& (31 : Int32))), .val (.ref s_LINUX_SLL2), .val (.int (20 : Int32)), .val (.int (0 : Int32)), .unset, .unset, .unset, .unset] [(.int (p2 &&& (31 : Int32)))])) rfl (hb hby at_88) rfl (own_nn31 _) (cap := 31) (own_le31 _) (by decide) (by decide) (by decide)
        obtain ⟨b96, g96⟩ : ∃ z, z = h0.size := ⟨_, rfl⟩
        rw [← g96] at A96 st96
        have ne97 : s_ETHERNET ≠ b96 := Nat.ne_of_lt (Nat.lt_of_lt_of_le (zE_s_ETHERNET.ext O0.2).lt (Nat.le_of_eq g96.symm))
        have ne98 : s_LINUX_SLL2 ≠ b96 := Nat.ne_of_lt (Nat.lt_of_lt_of_le (zE_s_LINUX_SLL2.ext O0.2).lt (Nat.le_of_eq g96.symm))
        have ne99 : s_LINUX_SLL ≠ b96 := Nat.ne_of_lt (Nat.lt_of_lt_of_le (zE_s_LINUX_SLL.ext O0.2).lt (Nat.le_of_eq g96.symm))
        have ne100 : s_RAW ≠ b96 := Nat.ne_of_lt (Nat.lt_of_lt_of_le (zE_s_RAW.ext O0.2).lt (Nat.le_of_eq g96.symm))
        have g_b96 : n0 ≤ b96 := Nat.le_trans Z0 (Nat.le_of_eq g96.symm)
        have sz_b96 : h0.size ≤ b96 := Nat.le_trans (Keep.refl h0 []).1 (Nat.le_of_eq g96.symm)
        have K96 : Keep h0 h96 [] := (Keep.refl h0 []).ext E96
        have V_b96 : AI Z h96 b96 .byte (p2 &&& (31 : Int32)) (fun _ => 0) := AI.new A96 (own_nn31 _) rfl
        have pre101 : ∀ t, Steps p.tables e below (T96.setTop (mkF m 101 #[.val (.int p1), .val (.int p2), .val (.int p3), .val (.int p4), .val (.int p5), .val (.int (p1 &&& (3 : Int32))), .val (.int (p2 &&& (31 : Int32))), .val (.ref s_LINUX_SLL2), .val (.int (20 : Int32)), .val (.int (0 : Int32)), .val (.ref b96), .unset, .unset, .unset] [(.int (p2 &&& (31 : Int32))), (.int (0 : Int32))])) t → Steps p.tables e below (s₁.setTop (entryFrame m #[(.int p1), (.int p2), (.int p3), (.int p4), (.int p5)] maxLocals)) t := fun t k => pre59 t (by
          show Steps p.tables e below (s₁.setTop (mkF m 55 #[.val (.int p1), .val (.int p2), .val (.int p3), .val (.int p4), .val (.int p5), .val (.int (p1 &&& (3 : Int32))), .val (.int (p2 &&& (31 : Int32))), .unset, .unset, .unset, .unset, .unset, .unset, .unset] [(.int (2 : Int32)), (.int (p1 &&& (3 : Int32)))])) _
          refine XS.icmpYes X0.here hx rfl (pc0 := 55) (pc' := 74) rfl (hb hby at_55) rfl (feq hc60).2 (by decide) (by decide) ?_
          show Steps p.tables e below (s₁.setTop (mkF m 74 #[.val (.int p1), .val (.int p2), .val (.int p3), .val (.int p4), .val (.int p5), .val (.int (p1 &&& (3 : Int32))), .val (.int (p2 &&& (31 : Int32))), .unset, .unset, .unset, .unset, .unset, .unset, .unset] [])) _
          refine st95 _ ?_
          show Steps p.tables e below (T95.setTop (mkF m 77 #[.val (.int p1), .val (.int p2), .val (.int p3), .val (.int p4), .val (.int p5), .val (.int (p1 &&& (3 : Int32))), .val (.int (p2 &&& (31 : Int32))), .unset, .unset, .unset, .unset, .unset, .unset, .unset] [(.ref s_LINUX_SLL2)])) _
          refine XS.astore X95.here hx rfl (hb hby at_77) rfl rfl (l' := #[.val (.int p1), .val (.int p2), .val (.int p3), .val (.int p4), .val (.int p5), .val (.int (p1 &&& (3 : Int32))), .val (.int (p2 &&& (31 : Int32))), .val (.ref s_LINUX_SLL2), .unset, .unset, .unset, .unset, .unset, .unset]) rfl ?_
          show Steps p.tables e below (T95.setTop (mkF m 79 #[.val (.int p1), .val (.int p2), .val (.int p3), .val (.int p4), .val (.int p5), .val (.int (p1 &&& (3 : Int32))), .val (.int (p2 &&& (31 : Int32))), .val (.ref s_LINUX_SLL2), .unset, .unset, .unset, .unset, .unset, .unset] [])) _
          refine XS.bipush X95.here hx rfl (hb hby at_79) ?_
          show Steps p.tables e below (T95.setTop (mkF m 81 #[.val (.int p1), .val (.int p2), .val (.int p3), .val (.int p4), .val (.int p5), .val (.int (p1 &&& (3 : Int32))), .val (.int (p2 &&& (31 : Int32))), .val (.ref s_LINUX_SLL2), .unset, .unset, .unset, .unset, .unset, .unset] [(.int (20 : Int32))])) _
          refine XS.istore X95.here hx rfl (hb hby at_81) rfl (l' := #[.val (.int p1), .val (.int p2), .val (.int p3), .val (.int p4), .val (.int p5), .val (.int (p1 &&& (3 : Int32))), .val (.int (p2 &&& (31 : Int32))), .val (.ref s_LINUX_SLL2), .val (.int (20 : Int32)), .unset, .unset, .unset, .unset, .unset]) rfl ?_
          show Steps p.tables e below (T95.setTop (mkF m 83 #[.val (.int p1), .val (.int p2), .val (.int p3), .val (.int p4), .val (.int p5), .val (.int (p1 &&& (3 : Int32))), .val (.int (p2 &&& (31 : Int32))), .val (.ref s_LINUX_SLL2), .val (.int (20 : Int32)), .unset, .unset, .unset, .unset, .unset] [])) _
          refine XS.iconst X95.here hx rfl (hb hby at_83) ?_
          show Steps p.tables e below (T95.setTop (mkF m 84 #[.val (.int p1), .val (.int p2), .val (.int p3), .val (.int p4), .val (.int p5), .val (.int (p1 &&& (3 : Int32))), .val (.int (p2 &&& (31 : Int32))), .val (.ref s_LINUX_SLL2), .val (.int (20 : Int32)), .unset, .unset, .unset, .unset, .unset] [(.int (0 : Int32))])) _
          refine XS.istore X95.here hx rfl (hb hby at_84) rfl (l' := #[.val (.int p1), .val (.int p2), .val (.int p3), .val (.int p4), .val (.int p5), .val (.int (p1 &&& (3 : Int32))), .val (.int (p2 &&& (31 : Int32))), .val (.ref s_LINUX_SLL2), .val (.int (20 : Int32)), .val (.int (0 : Int32)), .unset, .unset, .unset, .unset]) rfl ?_
          show Steps p.tables e below (T95.setTop (mkF m 86 #[.val (.int p1), .val (.int p2), .val (.int p3), .val (.int p4), .val (.int p5), .val (.int (p1 &&& (3 : Int32))), .val (.int (p2 &&& (31 : Int32))), .val (.ref s_LINUX_SLL2), .val (.int (20 : Int32)), .val (.int (0 : Int32)), .unset, .unset, .unset, .unset] [])) _
          refine XS.iload X95.here hx rfl (hb hby at_86) rfl ?_
          show Steps p.tables e below (T95.setTop (mkF m 88 #[.val (.int p1), .val (.int p2), .val (.int p3), .val (.int p4), .val (.int p5), .val (.int (p1 &&& (3 : Int32))), .val (.int (p2 &&& (31 : Int32))), .val (.ref s_LINUX_SLL2), .val (.int (20 : Int32)), .val (.int (0 : Int32)), .unset, .unset, .unset, .unset] [(.int (p2 &&& (31 : Int32)))])) _
          refine st96 _ ?_
          show Steps p.tables e below (T96.setTop (mkF m 90 #[.val (.int p1), .val (.int p2), .val (.int p3), .val (.int p4), .val (.int p5), .val (.int (p1 &&& (3 : Int32))), .val (.int (p2 &&& (31 : Int32))), .val (.ref s_LINUX_SLL2), .val (.int (20 : Int32)), .val (.int (0 : Int32)), .unset, .unset, .unset, .unset] [(.ref b96)])) _
          refine XS.astore X96.here hx rfl (hb hby at_90) rfl rfl (l' := #[.val (.int p1), .val (.int p2), .val (.int p3), .val (.int p4), .val (.int p5), .val (.int (p1 &&& (3 : Int32))), .val (.int (p2 &&& (31 : Int32))), .val (.ref s_LINUX_SLL2), .val (.int (20 : Int32)), .val (.int (0 : Int32)), .val (.ref b96), .unset, .unset, .unset]) rfl ?_
          show Steps p.tables e below (T96.setTop (mkF m 92 #[.val (.int p1), .val (.int p2), .val (.int p3), .val (.int p4), .val (.int p5), .val (.int (p1 &&& (3 : Int32))), .val (.int (p2 &&& (31 : Int32))), .val (.ref s_LINUX_SLL2), .val (.int (20 : Int32)), .val (.int (0 : Int32)), .val (.ref b96), .unset, .unset, .unset] [])) _
          refine XS.iload X96.here hx rfl (hb hby at_92) rfl ?_
          show Steps p.tables e below (T96.setTop (mkF m 94 #[.val (.int p1), .val (.int p2), .val (.int p3), .val (.int p4), .val (.int p5), .val (.int (p1 &&& (3 : Int32))), .val (.int (p2 &&& (31 : Int32))), .val (.ref s_LINUX_SLL2), .val (.int (20 : Int32)), .val (.int (0 : Int32)), .val (.ref b96), .unset, .unset, .unset] [(.int (0 : Int32))])) _
          refine XS.ifNo X96.here hx rfl (hb hby at_94) rfl ((if0 _ _).trans (flt (by decide : ¬ ((0 : Int32) < (0 : Int32)))).1) ?_
          show Steps p.tables e below (T96.setTop (mkF m 97 #[.val (.int p1), .val (.int p2), .val (.int p3), .val (.int p4), .val (.int p5), .val (.int (p1 &&& (3 : Int32))), .val (.int (p2 &&& (31 : Int32))), .val (.ref s_LINUX_SLL2), .val (.int (20 : Int32)), .val (.int (0 : Int32)), .val (.ref b96), .unset, .unset, .unset] [])) _
          refine XS.iload X96.here hx rfl (hb hby at_97) rfl ?_
          show Steps p.tables e below (T96.setTop (mkF m 99 #[.val (.int p1), .val (.int p2), .val (.int p3), .val (.int p4), .val (.int p5), .val (.int (p1 &&& (3 : Int32))), .val (.int (p2 &&& (31 : Int32))), .val (.ref s_LINUX_SLL2), .val (.int (20 : Int32)), .val (.int (0 : Int32)), .val (.ref b96), .unset, .unset, .unset] [(.int (0 : Int32))])) _
          refine XS.iload X96.here hx rfl (hb hby at_99) rfl ?_
          exact k)
        obtain ⟨T102, locs102, h102, X102, e102, N102, Kj102, P102_0, pre102⟩ : ∃ (T' : State) (locs' : List Loc) (h' : Heap), Stand p l e room_1 s m #[(.int p1), (.int p2), (.int p3), (.int p4), (.int p5)] below meth c T' locs' 1 31 ∧ T'.heap = h' ∧ Fr n0 locs' ∧ Keep h96 h' [b96] ∧ AI Z h' b96 .byte (p2 &&& (31 : Int32)) (m0_102_0 p2 p3) ∧ ∀ t, Steps p.tables e below (T'.setTop (mkF m 111 #[.val (.int p1), .val (.int p2), .val (.int p3), .val (.int p4), .val (.int p5), .val (.int (p1 &&& (3 : Int32))), .val (.int (p2 &&& (31 : Int32))), .val (.ref s_LINUX_SLL2), .val (.int (20 : Int32)), .val (.int (0 : Int32)), .val (.ref b96), .unset, .unset, .unset] [])) t → Steps p.tables e below (s₁.setTop (entryFrame m #[(.int p1), (.int p2), (.int p3), (.int p4), (.int p5)] maxLocals)) t := by
          by_cases hc103 : (0 : Int32) < (p2 &&& (31 : Int32))
          · obtain ⟨cl104, A104, S104, M104, G104⟩ := id V_b96
            have hin104 : ¬ ((0 : Int32) < 0 ∨ cl104.slots.size ≤ ((0 : Int32)).toNatClampNeg) := inb_of S104 (⟨by decide, hc103⟩)
            obtain ⟨T104, h104, X104, e104, W104, st104⟩ := stB X96 hx hZ e96 A104 (j := (0 : Int32)) hin104 (g := (mkF m 110 #[.val (.int p1), .val (.int p2), .val (.int p3), .val (.int p4), .val (.int p5), .val (.int (p1 &&& (3 : Int32))), .val (.int (p2 &&& (31 : Int32))), .val (.ref s_LINUX_SLL2), .val (.int (20 : Int32)), .val (.int (0 : Int32)), .val (.ref b96), .unset, .unset, .unset] [(.int (p3.toInt8.toInt32)), (.int (0 : Int32)), (.ref b96)])) rfl rfl (hb hby at_110)
            have V104 : AI Z h104 b96 .byte (p2 &&& (31 : Int32)) (fun i => if i = 0 then ((p3.toInt8.toInt32).toInt8.toInt32) else (fun _ => 0) i) := AI.set A104 S104 M104 G104 W104
            have K104 : Keep h0 h104 [] := K96.wr W104 (Or.inr sz_b96)
            have N104 := Fr.snoc X104 N0 g_b96
            exact ⟨_, _, _, X104, e104, N104, ((Keep.refl _ [b96]).wr W104 (Or.inl (List.mem_of_getElem? (i := 0) rfl))), (by rw [show (m0_102_0 p2 p3) = (fun i => if i = 0 then ((p3.toInt8.toInt32).toInt8.toInt32) else (fun _ => 0) i) from by first | (rw [m0_102_0, if_pos hc103]; done) | (simp only [m0_102_0, if_pos hc103]; done) | rfl]; exact V104), fun t k => pre101 t (by
              show Steps p.tables e below (T96.setTop (mkF m 101 #[.val (.int p1), .val (.int p2), .val (.int p3), .val (.int p4), .val (.int p5), .val (.int (p1 &&& (3 : Int32))), .val (.int (p2 &&& (31 : Int32))), .val (.ref s_LINUX_SLL2), .val (.int (20 : Int32)), .val (.int (0 : Int32)), .val (.ref b96), .unset, .unset, .unset] [(.int (p2 &&& (31 : Int32))), (.int (0 : Int32))])) _
              refine XS.icmpNo X96.here hx rfl (hb hby at_101) rfl (tlt hc103).2.1 ?_
              show Steps p.tables e below (T96.setTop (mkF m 104 #[.val (.int p1), .val (.int p2), .val (.int p3), .val (.int p4), .val (.int p5), .val (.int (p1 &&& (3 : Int32))), .val (.int (p2 &&& (31 : Int32))), .val (.ref s_LINUX_SLL2), .val (.int (20 : Int32)), .val (.int (0 : Int32)), .val (.ref b96), .unset, .unset, .unset] [])) _
              refine XS.aload X96.here hx rfl (hb hby at_104) rfl rfl ?_
              show Steps p.tables e below (T96.setTop (mkF m 106 #[.val (.int p1), .val (.int p2), .val (.int p3), .val (.int p4), .val (.int p5), .val (.int (p1 &&& (3 : Int32))), .val (.int (p2 &&& (31 : Int32))), .val (.ref s_LINUX_SLL2), .val (.int (20 : Int32)), .val (.int (0 : Int32)), .val (.ref b96), .unset, .unset, .unset] [(.ref b96)])) _
              refine XS.iload X96.here hx rfl (hb hby at_106) rfl ?_
              show Steps p.tables e below (T96.setTop (mkF m 108 #[.val (.int p1), .val (.int p2), .val (.int p3), .val (.int p4), .val (.int p5), .val (.int (p1 &&& (3 : Int32))), .val (.int (p2 &&& (31 : Int32))), .val (.ref s_LINUX_SLL2), .val (.int (20 : Int32)), .val (.int (0 : Int32)), .val (.ref b96), .unset, .unset, .unset] [(.int (0 : Int32)), (.ref b96)])) _
              refine XS.iloadN X96.here hx rfl (hb hby at_108) rfl ?_
              show Steps p.tables e below (T96.setTop (mkF m 109 #[.val (.int p1), .val (.int p2), .val (.int p3), .val (.int p4), .val (.int p5), .val (.int (p1 &&& (3 : Int32))), .val (.int (p2 &&& (31 : Int32))), .val (.ref s_LINUX_SLL2), .val (.int (20 : Int32)), .val (.int (0 : Int32)), .val (.ref b96), .unset, .unset, .unset] [(.int p3), (.int (0 : Int32)), (.ref b96)])) _
              refine XS.i2b X96.here hx rfl (hb hby at_109) rfl ?_
              show Steps p.tables e below (T96.setTop (mkF m 110 #[.val (.int p1), .val (.int p2), .val (.int p3), .val (.int p4), .val (.int p5), .val (.int (p1 &&& (3 : Int32))), .val (.int (p2 &&& (31 : Int32))), .val (.ref s_LINUX_SLL2), .val (.int (20 : Int32)), .val (.int (0 : Int32)), .val (.ref b96), .unset, .unset, .unset] [(.int (p3.toInt8.toInt32)), (.int (0 : Int32)), (.ref b96)])) _
              refine st104 _ ?_
              exact k)⟩
          · exact ⟨_, _, _, X96, e96, N0, (Keep.refl _ [b96]), (by rw [show (m0_102_0 p2 p3) = (fun _ => 0) from by first | (rw [m0_102_0, if_neg hc103]; done) | (simp only [m0_102_0, if_neg hc103]; done) | rfl]; exact V_b96), fun t k => pre101 t (by
              show Steps p.tables e below (T96.setTop (mkF m 101 #[.val (.int p1), .val (.int p2), .val (.int p3), .val (.int p4), .val (.int p5), .val (.int (p1 &&& (3 : Int32))), .val (.int (p2 &&& (31 : Int32))), .val (.ref s_LINUX_SLL2), .val (.int (20 : Int32)), .val (.int (0 : Int32)), .val (.ref b96), .unset, .unset, .unset] [(.int (p2 &&& (31 : Int32))), (.int (0 : Int32))])) _
              refine XS.icmpYes X96.here hx rfl (pc0 := 101) (pc' := 111) rfl (hb hby at_101) rfl (flt hc103).2.1 (by decide) (by decide) ?_
              exact k)⟩
        have K105 : Keep h0 h102 [] := K96.trans Kj102 (allS (Or.inr sz_b96) all0)
        have pre106 : ∀ t, Steps p.tables e below (T102.setTop (mkF m 117 #[.val (.int p1), .val (.int p2), .val (.int p3), .val (.int p4), .val (.int p5), .val (.int (p1 &&& (3 : Int32))), .val (.int (p2 &&& (31 : Int32))), .val (.ref s_LINUX_SLL2), .val (.int (20 : Int32)), .val (.int (0 : Int32)), .val (.ref b96), .unset, .unset, .unset] [(.int (p2 &&& (31 : Int32))), (.int (1 : Int32))])) t → Steps p.tables e below (s₁.setTop (entryFrame m #[(.int p1), (.int p2), (.int p3), (.int p4), (.int p5)] maxLocals)) t := fun t k => pre102 t (by
          show Steps p.tables e below (T102.setTop (mkF m 111 #[.val (.int p1), .val (.int p2), .val (.int p3), .val (.int p4), .val (.int p5), .val (.int (p1 &&& (3 : Int32))), .val (.int (p2 &&& (31 : Int32))), .val (.ref s_LINUX_SLL2), .val (.int (20 : Int32)), .val (.int (0 : Int32)), .val (.ref b96), .unset, .unset, .unset] [])) _
          refine XS.iload X102.here hx rfl (hb hby at_111) rfl ?_
          show Steps p.tables e below (T102.setTop (mkF m 113 #[.val (.int p1), .val (.int p2), .val (.int p3), .val (.int p4), .val (.int p5), .val (.int (p1 &&& (3 : Int32))), .val (.int (p2 &&& (31 : Int32))), .val (.ref s_LINUX_SLL2), .val (.int (20 : Int32)), .val (.int (0 : Int32)), .val (.ref b96), .unset, .unset, .unset] [(.int (0 : Int32))])) _
          refine XS.iconst X102.here hx rfl (hb hby at_113) ?_
          show Steps p.tables e below (T102.setTop (mkF m 114 #[.val (.int p1), .val (.int p2), .val (.int p3), .val (.int p4), .val (.int p5), .val (.int (p1 &&& (3 : Int32))), .val (.int (p2 &&& (31 : Int32))), .val (.ref s_LINUX_SLL2), .val (.int (20 : Int32)), .val (.int (0 : Int32)), .val (.ref b96), .unset, .unset, .unset] [(.int (1 : Int32)), (.int (0 : Int32))])) _
          refine XS.iadd X102.here hx rfl (hb hby at_114) rfl ?_
          show Steps p.tables e below (T102.setTop (mkF m 115 #[.val (.int p1), .val (.int p2), .val (.int p3), .val (.int p4), .val (.int p5), .val (.int (p1 &&& (3 : Int32))), .val (.int (p2 &&& (31 : Int32))), .val (.ref s_LINUX_SLL2), .val (.int (20 : Int32)), .val (.int (0 : Int32)), .val (.ref b96), .unset, .unset, .unset] [(.int (1 : Int32))])) _
          refine XS.iload X102.here hx rfl (hb hby at_115) rfl ?_
          exact k)
        obtain ⟨T107, locs107, h107, X107, e107, N107, Kj107, P107_0, pre107⟩ : ∃ (T' : State) (locs' : List Loc) (h' : Heap), Stand p l e room_1 s m #[(.int p1), (.int p2), (.int p3), (.int p4), (.int p5)] below meth c T' locs' 1 31 ∧ T'.heap = h' ∧ Fr n0 locs' ∧ Keep h102 h' [b96] ∧ AI Z h' b96 .byte (p2 &&& (31 : Int32)) (m0_107_0 p2 p3 p4) ∧ ∀ t, Steps p.tables e below (T'.setTop (mkF m 129 #[.val (.int p1), .val (.int p2), .val (.int p3), .val (.int p4), .val (.int p5), .val (.int (p1 &&& (3 : Int32))), .val (.int (p2 &&& (31 : Int32))), .val (.ref s_LINUX_SLL2), .val (.int (20 : Int32)), .val (.int (0 : Int32)), .val (.ref b96), .unset, .unset, .unset] [])) t → Steps p.tables e below (s₁.setTop (entryFrame m #[(.int p1), (.int p2), (.int p3), (.int p4), (.int p5)] maxLocals)) t := by
          by_cases hc108 : (1 : Int32) < (p2 &&& (31 : Int32))
          · obtain ⟨cl109, A109, S109, M109, G109⟩ := id P102_0
            have hin109 : ¬ ((1 : Int32) < 0 ∨ cl109.slots.size ≤ ((1 : Int32)).toNatClampNeg) := inb_of S109 (⟨by decide, hc108⟩)
            obtain ⟨T109, h109, X109, e109, W109, st109⟩ := stB X102 hx hZ e102 A109 (j := (1 : Int32)) hin109 (g := (mkF m 128 #[.val (.int p1), .val (.int p2), .val (.int p3), .val (.int p4), .val (.int p5), .val (.int (p1 &&& (3 : Int32))), .val (.int (p2 &&& (31 : Int32))), .val (.ref s_LINUX_SLL2), .val (.int (20 : Int32)), .val (.int (0 : Int32)), .val (.ref b96), .unset, .unset, .unset] [(.int (p4.toInt8.toInt32)), (.int (1 : Int32)), (.ref b96)])) rfl rfl (hb hby at_128)
            have V109 : AI Z h109 b96 .byte (p2 &&& (31 : Int32)) (fun i => if i = 1 then ((p4.toInt8.toInt32).toInt8.toInt32) else (m0_102_0 p2 p3) i) := AI.set A109 S109 M109 G109 W109
            have K109 : Keep h0 h109 [] := K105.wr W109 (Or.inr sz_b96)
            have N109 := Fr.snoc X109 N102 g_b96
            exact ⟨_, _, _, X109, e109, N109, ((Keep.refl _ [b96]).wr W109 (Or.inl (List.mem_of_getElem? (i := 0) rfl))), (by rw [show (m0_107_0 p2 p3 p4) = (fun i => if i = 1 then ((p4.toInt8.toInt32).toInt8.toInt32) else (m0_102_0 p2 p3) i) from by first | (rw [m0_107_0, if_pos hc108]; done) | (simp only [m0_107_0, if_pos hc108]; done) | rfl]; exact V109), fun t k => pre106 t (by
              show Steps p.tables e below (T102.setTop (mkF m 117 #[.val (.int p1), .val (.int p2), .val (.int p3), .val (.int p4), .val (.int p5), .val (.int (p1 &&& (3 : Int32))), .val (.int (p2 &&& (31 : Int32))), .val (.ref s_LINUX_SLL2), .val (.int (20 : Int32)), .val (.int (0 : Int32)), .val (.ref b96), .unset, .unset, .unset] [(.int (p2 &&& (31 : Int32))), (.int (1 : Int32))])) _
              refine XS.icmpNo X102.here hx rfl (hb hby at_117) rfl (tlt hc108).2.1 ?_
              show Steps p.tables e below (T102.setTop (mkF m 120 #[.val (.int p1), .val (.int p2), .val (.int p3), .val (.int p4), .val (.int p5), .val (.int (p1 &&& (3 : Int32))), .val (.int (p2 &&& (31 : Int32))), .val (.ref s_LINUX_SLL2), .val (.int (20 : Int32)), .val (.int (0 : Int32)), .val (.ref b96), .unset, .unset, .unset] [])) _
              refine XS.aload X102.here hx rfl (hb hby at_120) rfl rfl ?_
              show Steps p.tables e below (T102.setTop (mkF m 122 #[.val (.int p1), .val (.int p2), .val (.int p3), .val (.int p4), .val (.int p5), .val (.int (p1 &&& (3 : Int32))), .val (.int (p2 &&& (31 : Int32))), .val (.ref s_LINUX_SLL2), .val (.int (20 : Int32)), .val (.int (0 : Int32)), .val (.ref b96), .unset, .unset, .unset] [(.ref b96)])) _
              refine XS.iload X102.here hx rfl (hb hby at_122) rfl ?_
              show Steps p.tables e below (T102.setTop (mkF m 124 #[.val (.int p1), .val (.int p2), .val (.int p3), .val (.int p4), .val (.int p5), .val (.int (p1 &&& (3 : Int32))), .val (.int (p2 &&& (31 : Int32))), .val (.ref s_LINUX_SLL2), .val (.int (20 : Int32)), .val (.int (0 : Int32)), .val (.ref b96), .unset, .unset, .unset] [(.int (0 : Int32)), (.ref b96)])) _
              refine XS.iconst X102.here hx rfl (hb hby at_124) ?_
              show Steps p.tables e below (T102.setTop (mkF m 125 #[.val (.int p1), .val (.int p2), .val (.int p3), .val (.int p4), .val (.int p5), .val (.int (p1 &&& (3 : Int32))), .val (.int (p2 &&& (31 : Int32))), .val (.ref s_LINUX_SLL2), .val (.int (20 : Int32)), .val (.int (0 : Int32)), .val (.ref b96), .unset, .unset, .unset] [(.int (1 : Int32)), (.int (0 : Int32)), (.ref b96)])) _
              refine XS.iadd X102.here hx rfl (hb hby at_125) rfl ?_
              show Steps p.tables e below (T102.setTop (mkF m 126 #[.val (.int p1), .val (.int p2), .val (.int p3), .val (.int p4), .val (.int p5), .val (.int (p1 &&& (3 : Int32))), .val (.int (p2 &&& (31 : Int32))), .val (.ref s_LINUX_SLL2), .val (.int (20 : Int32)), .val (.int (0 : Int32)), .val (.ref b96), .unset, .unset, .unset] [(.int (1 : Int32)), (.ref b96)])) _
              refine XS.iloadN X102.here hx rfl (hb hby at_126) rfl ?_
              show Steps p.tables e below (T102.setTop (mkF m 127 #[.val (.int p1), .val (.int p2), .val (.int p3), .val (.int p4), .val (.int p5), .val (.int (p1 &&& (3 : Int32))), .val (.int (p2 &&& (31 : Int32))), .val (.ref s_LINUX_SLL2), .val (.int (20 : Int32)), .val (.int (0 : Int32)), .val (.ref b96), .unset, .unset, .unset] [(.int p4), (.int (1 : Int32)), (.ref b96)])) _
              refine XS.i2b X102.here hx rfl (hb hby at_127) rfl ?_
              show Steps p.tables e below (T102.setTop (mkF m 128 #[.val (.int p1), .val (.int p2), .val (.int p3), .val (.int p4), .val (.int p5), .val (.int (p1 &&& (3 : Int32))), .val (.int (p2 &&& (31 : Int32))), .val (.ref s_LINUX_SLL2), .val (.int (20 : Int32)), .val (.int (0 : Int32)), .val (.ref b96), .unset, .unset, .unset] [(.int (p4.toInt8.toInt32)), (.int (1 : Int32)), (.ref b96)])) _
              refine st109 _ ?_
              exact k)⟩
          · exact ⟨_, _, _, X102, e102, N102, (Keep.refl _ [b96]), (by rw [show (m0_107_0 p2 p3 p4) = (m0_102_0 p2 p3) from by first | (rw [m0_107_0, if_neg hc108]; done) | (simp only [m0_107_0, if_neg hc108]; done) | rfl]; exact P102_0), fun t k => pre106 t (by
              show Steps p.tables e below (T102.setTop (mkF m 117 #[.val (.int p1), .val (.int p2), .val (.int p3), .val (.int p4), .val (.int p5), .val (.int (p1 &&& (3 : Int32))), .val (.int (p2 &&& (31 : Int32))), .val (.ref s_LINUX_SLL2), .val (.int (20 : Int32)), .val (.int (0 : Int32)), .val (.ref b96), .unset, .unset, .unset] [(.int (p2 &&& (31 : Int32))), (.int (1 : Int32))])) _
              refine XS.icmpYes X102.here hx rfl (pc0 := 117) (pc' := 129) rfl (hb hby at_117) rfl (flt hc108).2.1 (by decide) (by decide) ?_
              exact k)⟩
        have K110 : Keep h0 h107 [] := K105.trans Kj107 (allS (Or.inr sz_b96) all0)
        have pre111 : ∀ t, Steps p.tables e below (T107.setTop (mkF m 133 #[.val (.int p1), .val (.int p2), .val (.int p3), .val (.int p4), .val (.int p5), .val (.int (p1 &&& (3 : Int32))), .val (.int (p2 &&& (31 : Int32))), .val (.ref s_LINUX_SLL2), .val (.int (20 : Int32)), .val (.int (0 : Int32)), .val (.ref b96), .unset, .unset, .unset] [(.int (p2 &&& (31 : Int32))), (.int (20 : Int32))])) t → Steps p.tables e below (s₁.setTop (entryFrame m #[(.int p1), (.int p2), (.int p3), (.int p4), (.int p5)] maxLocals)) t := fun t k => pre107 t (by
          show Steps p.tables e below (T107.setTop (mkF m 129 #[.val (.int p1), .val (.int p2), .val (.int p3), .val (.int p4), .val (.int p5), .val (.int (p1 &&& (3 : Int32))), .val (.int (p2 &&& (31 : Int32))), .val (.ref s_LINUX_SLL2), .val (.int (20 : Int32)), .val (.int (0 : Int32)), .val (.ref b96), .unset, .unset, .unset] [])) _
          refine XS.iload X107.here hx rfl (hb hby at_129) rfl ?_
          show Steps p.tables e below (T107.setTop (mkF m 131 #[.val (.int p1), .val (.int p2), .val (.int p3), .val (.int p4), .val (.int p5), .val (.int (p1 &&& (3 : Int32))), .val (.int (p2 &&& (31 : Int32))), .val (.ref s_LINUX_SLL2), .val (.int (20 : Int32)), .val (.int (0 : Int32)), .val (.ref b96), .unset, .unset, .unset] [(.int (20 : Int32))])) _
          refine XS.iload X107.here hx rfl (hb hby at_131) rfl ?_
          exact k)
        obtain ⟨T112, locs112, h112, X112, e112, N112, Kj112, P112_0, pre112⟩ : ∃ (T' : State) (locs' : List Loc) (h' : Heap), Stand p l e room_1 s m #[(.int p1), (.int p2), (.int p3), (.int p4), (.int p5)] below meth c T' locs' 1 31 ∧ T'.heap = h' ∧ Fr n0 locs' ∧ Keep h107 h' [b96] ∧ AI Z h' b96 .byte (p2 &&& (31 : Int32)) (m0_112_0 p2 p3 p4 p5) ∧ ∀ t, Steps p.tables e below (T'.setTop (mkF m 144 #[.val (.int p1), .val (.int p2), .val (.int p3), .val (.int p4), .val (.int p5), .val (.int (p1 &&& (3 : Int32))), .val (.int (p2 &&& (31 : Int32))), .val (.ref s_LINUX_SLL2), .val (.int (20 : Int32)), .val (.int (0 : Int32)), .val (.ref b96), .unset, .unset, .unset] [])) t → Steps p.tables e below (s₁.setTop (entryFrame m #[(.int p1), (.int p2), (.int p3), (.int p4), (.int p5)] maxLocals)) t := by
          by_cases hc113 : (20 : Int32) < (p2 &&& (31 : Int32))
          · obtain ⟨cl114, A114, S114, M114, G114⟩ := id P107_0
            have hin114 : ¬ ((20 : Int32) < 0 ∨ cl114.slots.size ≤ ((20 : Int32)).toNatClampNeg) := inb_of S114 (⟨by decide, hc113⟩)
            obtain ⟨T114, h114, X114, e114, W114, st114⟩ := stB X107 hx hZ e107 A114 (j := (20 : Int32)) hin114 (g := (mkF m 143 #[.val (.int p1), .val (.int p2), .val (.int p3), .val (.int p4), .val (.int p5), .val (.int (p1 &&& (3 : Int32))), .val (.int (p2 &&& (31 : Int32))), .val (.ref s_LINUX_SLL2), .val (.int (20 : Int32)), .val (.int (0 : Int32)), .val (.ref b96), .unset, .unset, .unset] [(.int (p5.toInt8.toInt32)), (.int (20 : Int32)), (.ref b96)])) rfl rfl (hb hby at_143)
            have V114 : AI Z h114 b96 .byte (p2 &&& (31 : Int32)) (fun i => if i = 20 then ((p5.toInt8.toInt32).toInt8.toInt32) else (m0_107_0 p2 p3 p4) i) := AI.set A114 S114 M114 G114 W114
            have K114 : Keep h0 h114 [] := K110.wr W114 (Or.inr sz_b96)
            have N114 := Fr.snoc X114 N107 g_b96
            exact ⟨_, _, _, X114, e114, N114, ((Keep.refl _ [b96]).wr W114 (Or.inl (List.mem_of_getElem? (i := 0) rfl))), (by rw [show (m0_112_0 p2 p3 p4 p5) = (fun i => if i = 20 then ((p5.toInt8.toInt32).toInt8.toInt32) else (m0_107_0 p2 p3 p4) i) from by first | (rw [m0_112_0, if_pos hc113]; done) | (simp only [m0_112_0, if_pos hc113]; done) | rfl]; exact V114), fun t k => pre111 t (by
              show Steps p.tables e below (T107.setTop (mkF m 133 #[.val (.int p1), .val (.int p2), .val (.int p3), .val (.int p4), .val (.int p5), .val (.int (p1 &&& (3 : Int32))), .val (.int (p2 &&& (31 : Int32))), .val (.ref s_LINUX_SLL2), .val (.int (20 : Int32)), .val (.int (0 : Int32)), .val (.ref b96), .unset, .unset, .unset] [(.int (p2 &&& (31 : Int32))), (.int (20 : Int32))])) _
              refine XS.icmpNo X107.here hx rfl (hb hby at_133) rfl (tlt hc113).2.1 ?_
              show Steps p.tables e below (T107.setTop (mkF m 136 #[.val (.int p1), .val (.int p2), .val (.int p3), .val (.int p4), .val (.int p5), .val (.int (p1 &&& (3 : Int32))), .val (.int (p2 &&& (31 : Int32))), .val (.ref s_LINUX_SLL2), .val (.int (20 : Int32)), .val (.int (0 : Int32)), .val (.ref b96), .unset, .unset, .unset] [])) _
              refine XS.aload X107.here hx rfl (hb hby at_136) rfl rfl ?_
              show Steps p.tables e below (T107.setTop (mkF m 138 #[.val (.int p1), .val (.int p2), .val (.int p3), .val (.int p4), .val (.int p5), .val (.int (p1 &&& (3 : Int32))), .val (.int (p2 &&& (31 : Int32))), .val (.ref s_LINUX_SLL2), .val (.int (20 : Int32)), .val (.int (0 : Int32)), .val (.ref b96), .unset, .unset, .unset] [(.ref b96)])) _
              refine XS.iload X107.here hx rfl (hb hby at_138) rfl ?_
              show Steps p.tables e below (T107.setTop (mkF m 140 #[.val (.int p1), .val (.int p2), .val (.int p3), .val (.int p4), .val (.int p5), .val (.int (p1 &&& (3 : Int32))), .val (.int (p2 &&& (31 : Int32))), .val (.ref s_LINUX_SLL2), .val (.int (20 : Int32)), .val (.int (0 : Int32)), .val (.ref b96), .unset, .unset, .unset] [(.int (20 : Int32)), (.ref b96)])) _
              refine XS.iload X107.here hx rfl (hb hby at_140) rfl ?_
              show Steps p.tables e below (T107.setTop (mkF m 142 #[.val (.int p1), .val (.int p2), .val (.int p3), .val (.int p4), .val (.int p5), .val (.int (p1 &&& (3 : Int32))), .val (.int (p2 &&& (31 : Int32))), .val (.ref s_LINUX_SLL2), .val (.int (20 : Int32)), .val (.int (0 : Int32)), .val (.ref b96), .unset, .unset, .unset] [(.int p5), (.int (20 : Int32)), (.ref b96)])) _
              refine XS.i2b X107.here hx rfl (hb hby at_142) rfl ?_
              show Steps p.tables e below (T107.setTop (mkF m 143 #[.val (.int p1), .val (.int p2), .val (.int p3), .val (.int p4), .val (.int p5), .val (.int (p1 &&& (3 : Int32))), .val (.int (p2 &&& (31 : Int32))), .val (.ref s_LINUX_SLL2), .val (.int (20 : Int32)), .val (.int (0 : Int32)), .val (.ref b96), .unset, .unset, .unset] [(.int (p5.toInt8.toInt32)), (.int (20 : Int32)), (.ref b96)])) _
              refine st114 _ ?_
              exact k)⟩
          · exact ⟨_, _, _, X107, e107, N107, (Keep.refl _ [b96]), (by rw [show (m0_112_0 p2 p3 p4 p5) = (m0_107_0 p2 p3 p4) from by first | (rw [m0_112_0, if_neg hc113]; done) | (simp only [m0_112_0, if_neg hc113]; done) | rfl]; exact P107_0), fun t k => pre111 t (by
              show Steps p.tables e below (T107.setTop (mkF m 133 #[.val (.int p1), .val (.int p2), .val (.int p3), .val (.int p4), .val (.int p5), .val (.int (p1 &&& (3 : Int32))), .val (.int (p2 &&& (31 : Int32))), .val (.ref s_LINUX_SLL2), .val (.int (20 : Int32)), .val (.int (0 : Int32)), .val (.ref b96), .unset, .unset, .unset] [(.int (p2 &&& (31 : Int32))), (.int (20 : Int32))])) _
              refine XS.icmpYes X107.here hx rfl (pc0 := 133) (pc' := 144) rfl (hb hby at_133) rfl (flt hc113).2.1 (by decide) (by decide) ?_
              exact k)⟩
        have K115 : Keep h0 h112 [] := K110.trans Kj112 (allS (Or.inr sz_b96) all0)
        have O116 := ((((O0.ext E96).keep Kj102 (allS g_b96 all0)).keep Kj107 (allS g_b96 all0)).keep Kj112 (allS g_b96 all0))
        obtain ⟨cq117, kq117, q117a, q117b, q117c⟩ := isOf hZ e112 (zE_s_LINUX_SLL2.ext O116.2)
        obtain ⟨_, _, ⟨T117, L117, k117, n117⟩, -, X117, ⟨Lc117, hQ117, l117, y117, z117⟩, st117⟩ := X112.virtualBack hx (y := (⟨"com/example/waymark/waymark/cli/LinkType", "ipVersion", "([B)I"⟩ : MethodName)) (z := (⟨"com/example/waymark/waymark/cli/LinkType", "ipVersion", "([B)I"⟩ : MethodName)) hown (mvT hZ (hw _ (List.mem_of_getElem? (i := 4) rfl))) (mvT hZ (hw _ (List.mem_of_getElem? (i := 5) rfl))) (notFace_of_selects (args := #[]) (mvT hZ (hw _ (List.mem_of_getElem? (i := 7) rfl)))) (mvT hZ (hw _ (List.mem_of_getElem? (i := 7) rfl))) (mvT hZ (hw _ (List.mem_of_getElem? (i := 6) rfl))) (by decide) (backOf (W := 0) (rm1 l Z a0 hw [] s_LINUX_SLL2 b96 (20 : Int32) (0 : Int32) (p2 &&& (31 : Int32)) (m0_112_0 p2 p3 p4 p5) h112 n0 (Nat.le_trans Z0 K115.1) (zF_s_LINUX_SLL2_headerLength.ext O116.2) (zF_s_LINUX_SLL2_protocolOffset.ext O116.2) P112_0 (by decide : ¬ (20 : Int32) < 0) (by decide : ¬ (0 : Int32) < 0 → (0 : Int32) < (20 : Int32) ∧ (0 : Int32) + (1 : Int32) < (20 : Int32) ∧ ¬ (0 : Int32) + (1 : Int32) < 0)) hZ (hw _ (List.mem_of_getElem? (i := 8) rfl)) (hw _ (List.mem_of_getElem? (i := 1) rfl)) (by decide) (by decide)) q117a q117c (g := (mkF m 148 #[.val (.int p1), .val (.int p2), .val (.int p3), .val (.int p4), .val (.int p5), .val (.int (p1 &&& (3 : Int32))), .val (.int (p2 &&& (31 : Int32))), .val (.ref s_LINUX_SLL2), .val (.int (20 : Int32)), .val (.int (0 : Int32)), .val (.ref b96), .unset, .unset, .unset] [(.ref b96), (.ref s_LINUX_SLL2)])) rfl (by rw [hml]; rfl) (Steps.refl _) (argsL := [(.ref b96)]) (rest := []) (lenOf pd_0 rfl) rfl (by show 2 * 0 + _ ≤ _; exact Nat.le_of_eq rfl) (hb hby at_148) (fun _ _ => ⟨rfl, e112, (by decide : 1 + 0 ≤ _), (by decide : 31 + 0 ≤ _)⟩)
        dsimp only [Pt.U, Pt.locs, Pt.cells, Pt.slots] at X117 l117 y117 z117 st117 hQ117
        subst l117 y117 z117
        obtain ⟨rfl, N117q, e117⟩ := hQ117
        have N117 := Fr.app N112 N117q
        have pre118 : ∀ t, Steps p.tables e below (T117.setTop (mkF m 157 #[.val (.int p1), .val (.int p2), .val (.int p3), .val (.int p4), .val (.int p5), .val (.int (p1 &&& (3 : Int32))), .val (.int (p2 &&& (31 : Int32))), .val (.ref s_LINUX_SLL2), .val (.int (20 : Int32)), .val (.int (0 : Int32)), .val (.ref b96), .val (.int (f1 (20 : Int32) (0 : Int32) (p2 &&& (31 : Int32)) (m0_112_0 p2 p3 p4 p5))), .unset, .unset] [(.int (20 : Int32)), (.int (p2 &&& (31 : Int32)))])) t → Steps p.tables e below (s₁.setTop (entryFrame m #[(.int p1), (.int p2), (.int p3), (.int p4), (.int p5)] maxLocals)) t := fun t k => pre112 t (by
          show Steps p.tables e below (T112.setTop (mkF m 144 #[.val (.int p1), .val (.int p2), .val (.int p3), .val (.int p4), .val (.int p5), .val (.int (p1 &&& (3 : Int32))), .val (.int (p2 &&& (31 : Int32))), .val (.ref s_LINUX_SLL2), .val (.int (20 : Int32)), .val (.int (0 : Int32)), .val (.ref b96), .unset, .unset, .unset] [])) _
          refine XS.aload X112.here hx rfl (hb hby at_144) rfl rfl ?_
          show Steps p.tables e below (T112.setTop (mkF m 146 #[.val (.int p1), .val (.int p2), .val (.int p3), .val (.int p4), .val (.int p5), .val (.int (p1 &&& (3 : Int32))), .val (.int (p2 &&& (31 : Int32))), .val (.ref s_LINUX_SLL2), .val (.int (20 : Int32)), .val (.int (0 : Int32)), .val (.ref b96), .unset, .unset, .unset] [(.ref s_LINUX_SLL2)])) _
          refine XS.aload X112.here hx rfl (hb hby at_146) rfl rfl ?_
          show Steps p.tables e below (T112.setTop (mkF m 148 #[.val (.int p1), .val (.int p2), .val (.int p3), .val (.int p4), .val (.int p5), .val (.int (p1 &&& (3 : Int32))), .val (.int (p2 &&& (31 : Int32))), .val (.ref s_LINUX_SLL2), .val (.int (20 : Int32)), .val (.int (0 : Int32)), .val (.ref b96), .unset, .unset, .unset] [(.ref b96), (.ref s_LINUX_SLL2)])) _
          refine st117.trans ?_
          show Steps p.tables e below (T117.setTop (mkF m 151 #[.val (.int p1), .val (.int p2), .val (.int p3), .val (.int p4), .val (.int p5), .val (.int (p1 &&& (3 : Int32))), .val (.int (p2 &&& (31 : Int32))), .val (.ref s_LINUX_SLL2), .val (.int (20 : Int32)), .val (.int (0 : Int32)), .val (.ref b96), .unset, .unset, .unset] [(.int (f1 (20 : Int32) (0 : Int32) (p2 &&& (31 : Int32)) (m0_112_0 p2 p3 p4 p5)))])) _
          refine XS.istore X117.here hx rfl (hb hby at_151) rfl (l' := #[.val (.int p1), .val (.int p2), .val (.int p3), .val (.int p4), .val (.int p5), .val (.int (p1 &&& (3 : Int32))), .val (.int (p2 &&& (31 : Int32))), .val (.ref s_LINUX_SLL2), .val (.int (20 : Int32)), .val (.int (0 : Int32)), .val (.ref b96), .val (.int (f1 (20 : Int32) (0 : Int32) (p2 &&& (31 : Int32)) (m0_112_0 p2 p3 p4 p5))), .unset, .unset]) rfl ?_
          show Steps p.tables e below (T117.setTop (mkF m 153 #[.val (.int p1), .val (.int p2), .val (.int p3), .val (.int p4), .val (.int p5), .val (.int (p1 &&& (3 : Int32))), .val (.int (p2 &&& (31 : Int32))), .val (.ref s_LINUX_SLL2), .val (.int (20 : Int32)), .val (.int (0 : Int32)), .val (.ref b96), .val (.int (f1 (20 : Int32) (0 : Int32) (p2 &&& (31 : Int32)) (m0_112_0 p2 p3 p4 p5))), .unset, .unset] [])) _
          refine XS.iload X117.here hx rfl (hb hby at_153) rfl ?_
          show Steps p.tables e below (T117.setTop (mkF m 155 #[.val (.int p1), .val (.int p2), .val (.int p3), .val (.int p4), .val (.int p5), .val (.int (p1 &&& (3 : Int32))), .val (.int (p2 &&& (31 : Int32))), .val (.ref s_LINUX_SLL2), .val (.int (20 : Int32)), .val (.int (0 : Int32)), .val (.ref b96), .val (.int (f1 (20 : Int32) (0 : Int32) (p2 &&& (31 : Int32)) (m0_112_0 p2 p3 p4 p5))), .unset, .unset] [(.int (p2 &&& (31 : Int32)))])) _
          refine XS.iload X117.here hx rfl (hb hby at_155) rfl ?_
          exact k)
        have pre119 : ∀ t, Steps p.tables e below (T117.setTop (mkF m 231 #[.val (.int p1), .val (.int p2), .val (.int p3), .val (.int p4), .val (.int p5), .val (.int (p1 &&& (3 : Int32))), .val (.int (p2 &&& (31 : Int32))), .val (.ref s_LINUX_SLL2), .val (.int (20 : Int32)), .val (.int (0 : Int32)), .val (.ref b96), .val (.int (f1 (20 : Int32) (0 : Int32) (p2 &&& (31 : Int32)) (m0_112_0 p2 p3 p4 p5))), .val (.int (m0_119_0 p2 p3 p4)), (m0_119_1 p2 p3 p4)] [])) t → Steps p.tables e below (s₁.setTop (entryFrame m #[(.int p1), (.int p2), (.int p3), (.int p4), (.int p5)] maxLocals)) t := by
          intro t k
          by_cases hc120 : (20 : Int32) < (p2 &&& (31 : Int32))
          · have pre121 : ∀ t, Steps p.tables e below (T117.setTop (mkF m 205 #[.val (.int p1), .val (.int p2), .val (.int p3), .val (.int p4), .val (.int p5), .val (.int (p1 &&& (3 : Int32))), .val (.int (p2 &&& (31 : Int32))), .val (.ref s_LINUX_SLL2), .val (.int (20 : Int32)), .val (.int (0 : Int32)), .val (.ref b96), .val (.int (f1 (20 : Int32) (0 : Int32) (p2 &&& (31 : Int32)) (m0_112_0 p2 p3 p4 p5))), .unset, .val (.int (((p3 &&& (255 : Int32)) <<< ((8 : Int32) &&& 31)) ||| (p4 &&& (255 : Int32))))] [(.int (2048 : Int32)), (.int (((p3 &&& (255 : Int32)) <<< ((8 : Int32) &&& 31)) ||| (p4 &&& (255 : Int32))))])) t → Steps p.tables e below (s₁.setTop (entryFrame m #[(.int p1), (.int p2), (.int p3), (.int p4), (.int p5)] maxLocals)) t := fun t k => pre118 t (by
              show Steps p.tables e below (T117.setTop (mkF m 157 #[.val (.int p1), .val (.int p2), .val (.int p3), .val (.int p4), .val (.int p5), .val (.int (p1 &&& (3 : Int32))), .val (.int (p2 &&& (31 : Int32))), .val (.ref s_LINUX_SLL2), .val (.int (20 : Int32)), .val (.int (0 : Int32)), .val (.ref b96), .val (.int (f1 (20 : Int32) (0 : Int32) (p2 &&& (31 : Int32)) (m0_112_0 p2 p3 p4 p5))), .unset, .unset] [(.int (20 : Int32)), (.int (p2 &&& (31 : Int32)))])) _
              refine XS.icmpYes X117.here hx rfl (pc0 := 157) (pc' := 166) rfl (hb hby at_157) rfl (tlt hc120).2.2.1 (by decide) (by decide) ?_
              show Steps p.tables e below (T117.setTop (mkF m 166 #[.val (.int p1), .val (.int p2), .val (.int p3), .val (.int p4), .val (.int p5), .val (.int (p1 &&& (3 : Int32))), .val (.int (p2 &&& (31 : Int32))), .val (.ref s_LINUX_SLL2), .val (.int (20 : Int32)), .val (.int (0 : Int32)), .val (.ref b96), .val (.int (f1 (20 : Int32) (0 : Int32) (p2 &&& (31 : Int32)) (m0_112_0 p2 p3 p4 p5))), .unset, .unset] [])) _
              refine XS.iload X117.here hx rfl (hb hby at_166) rfl ?_
              show Steps p.tables e below (T117.setTop (mkF m 168 #[.val (.int p1), .val (.int p2), .val (.int p3), .val (.int p4), .val (.int p5), .val (.int (p1 &&& (3 : Int32))), .val (.int (p2 &&& (31 : Int32))), .val (.ref s_LINUX_SLL2), .val (.int (20 : Int32)), .val (.int (0 : Int32)), .val (.ref b96), .val (.int (f1 (20 : Int32) (0 : Int32) (p2 &&& (31 : Int32)) (m0_112_0 p2 p3 p4 p5))), .unset, .unset] [(.int (0 : Int32))])) _
              refine XS.ifYes X117.here hx rfl (pc0 := 168) (pc' := 184) rfl (hb hby at_168) rfl ((if0 _ _).trans (flt (by decide : ¬ ((0 : Int32) < (0 : Int32)))).2.1) (by decide) (by decide) ?_
              show Steps p.tables e below (T117.setTop (mkF m 184 #[.val (.int p1), .val (.int p2), .val (.int p3), .val (.int p4), .val (.int p5), .val (.int (p1 &&& (3 : Int32))), .val (.int (p2 &&& (31 : Int32))), .val (.ref s_LINUX_SLL2), .val (.int (20 : Int32)), .val (.int (0 : Int32)), .val (.ref b96), .val (.int (f1 (20 : Int32) (0 : Int32) (p2 &&& (31 : Int32)) (m0_112_0 p2 p3 p4 p5))), .unset, .unset] [])) _
              refine XS.iloadN X117.here hx rfl (hb hby at_184) rfl ?_
              show Steps p.tables e below (T117.setTop (mkF m 185 #[.val (.int p1), .val (.int p2), .val (.int p3), .val (.int p4), .val (.int p5), .val (.int (p1 &&& (3 : Int32))), .val (.int (p2 &&& (31 : Int32))), .val (.ref s_LINUX_SLL2), .val (.int (20 : Int32)), .val (.int (0 : Int32)), .val (.ref b96), .val (.int (f1 (20 : Int32) (0 : Int32) (p2 &&& (31 : Int32)) (m0_112_0 p2 p3 p4 p5))), .unset, .unset] [(.int p3)])) _
              refine XS.sipush X117.here hx rfl (hb hby at_185) ?_
              show Steps p.tables e below (T117.setTop (mkF m 188 #[.val (.int p1), .val (.int p2), .val (.int p3), .val (.int p4), .val (.int p5), .val (.int (p1 &&& (3 : Int32))), .val (.int (p2 &&& (31 : Int32))), .val (.ref s_LINUX_SLL2), .val (.int (20 : Int32)), .val (.int (0 : Int32)), .val (.ref b96), .val (.int (f1 (20 : Int32) (0 : Int32) (p2 &&& (31 : Int32)) (m0_112_0 p2 p3 p4 p5))), .unset, .unset] [(.int (255 : Int32)), (.int p3)])) _
              refine XS.iand X117.here hx rfl (hb hby at_188) rfl ?_
              show Steps p.tables e below (T117.setTop (mkF m 189 #[.val (.int p1), .val (.int p2), .val (.int p3), .val (.int p4), .val (.int p5), .val (.int (p1 &&& (3 : Int32))), .val (.int (p2 &&& (31 : Int32))), .val (.ref s_LINUX_SLL2), .val (.int (20 : Int32)), .val (.int (0 : Int32)), .val (.ref b96), .val (.int (f1 (20 : Int32) (0 : Int32) (p2 &&& (31 : Int32)) (m0_112_0 p2 p3 p4 p5))), .unset, .unset] [(.int (p3 &&& (255 : Int32)))])) _
              refine XS.bipush X117.here hx rfl (hb hby at_189) ?_
              show Steps p.tables e below (T117.setTop (mkF m 191 #[.val (.int p1), .val (.int p2), .val (.int p3), .val (.int p4), .val (.int p5), .val (.int (p1 &&& (3 : Int32))), .val (.int (p2 &&& (31 : Int32))), .val (.ref s_LINUX_SLL2), .val (.int (20 : Int32)), .val (.int (0 : Int32)), .val (.ref b96), .val (.int (f1 (20 : Int32) (0 : Int32) (p2 &&& (31 : Int32)) (m0_112_0 p2 p3 p4 p5))), .unset, .unset] [(.int (8 : Int32)), (.int (p3 &&& (255 : Int32)))])) _
              refine XS.ishl X117.here hx rfl (hb hby at_191) rfl ?_
              show Steps p.tables e below (T117.setTop (mkF m 192 #[.val (.int p1), .val (.int p2), .val (.int p3), .val (.int p4), .val (.int p5), .val (.int (p1 &&& (3 : Int32))), .val (.int (p2 &&& (31 : Int32))), .val (.ref s_LINUX_SLL2), .val (.int (20 : Int32)), .val (.int (0 : Int32)), .val (.ref b96), .val (.int (f1 (20 : Int32) (0 : Int32) (p2 &&& (31 : Int32)) (m0_112_0 p2 p3 p4 p5))), .unset, .unset] [(.int ((p3 &&& (255 : Int32)) <<< ((8 : Int32) &&& 31)))])) _
              refine XS.iloadN X117.here hx rfl (hb hby at_192) rfl ?_
              show Steps p.tables e below (T117.setTop (mkF m 193 #[.val (.int p1), .val (.int p2), .val (.int p3), .val (.int p4), .val (.int p5), .val (.int (p1 &&& (3 : Int32))), .val (.int (p2 &&& (31 : Int32))), .val (.ref s_LINUX_SLL2), .val (.int (20 : Int32)), .val (.int (0 : Int32)), .val (.ref b96), .val (.int (f1 (20 : Int32) (0 : Int32) (p2 &&& (31 : Int32)) (m0_112_0 p2 p3 p4 p5))), .unset, .unset] [(.int p4), (.int ((p3 &&& (255 : Int32)) <<< ((8 : Int32) &&& 31)))])) _
              refine XS.sipush X117.here hx rfl (hb hby at_193) ?_
              show Steps p.tables e below (T117.setTop (mkF m 196 #[.val (.int p1), .val (.int p2), .val (.int p3), .val (.int p4), .val (.int p5), .val (.int (p1 &&& (3 : Int32))), .val (.int (p2 &&& (31 : Int32))), .val (.ref s_LINUX_SLL2), .val (.int (20 : Int32)), .val (.int (0 : Int32)), .val (.ref b96), .val (.int (f1 (20 : Int32) (0 : Int32) (p2 &&& (31 : Int32)) (m0_112_0 p2 p3 p4 p5))), .unset, .unset] [(.int (255 : Int32)), (.int p4), (.int ((p3 &&& (255 : Int32)) <<< ((8 : Int32) &&& 31)))])) _
              refine XS.iand X117.here hx rfl (hb hby at_196) rfl ?_
              show Steps p.tables e below (T117.setTop (mkF m 197 #[.val (.int p1), .val (.int p2), .val (.int p3), .val (.int p4), .val (.int p5), .val (.int (p1 &&& (3 : Int32))), .val (.int (p2 &&& (31 : Int32))), .val (.ref s_LINUX_SLL2), .val (.int (20 : Int32)), .val (.int (0 : Int32)), .val (.ref b96), .val (.int (f1 (20 : Int32) (0 : Int32) (p2 &&& (31 : Int32)) (m0_112_0 p2 p3 p4 p5))), .unset, .unset] [(.int (p4 &&& (255 : Int32))), (.int ((p3 &&& (255 : Int32)) <<< ((8 : Int32) &&& 31)))])) _
              refine XS.ior X117.here hx rfl (hb hby at_197) rfl ?_
              show Steps p.tables e below (T117.setTop (mkF m 198 #[.val (.int p1), .val (.int p2), .val (.int p3), .val (.int p4), .val (.int p5), .val (.int (p1 &&& (3 : Int32))), .val (.int (p2 &&& (31 : Int32))), .val (.ref s_LINUX_SLL2), .val (.int (20 : Int32)), .val (.int (0 : Int32)), .val (.ref b96), .val (.int (f1 (20 : Int32) (0 : Int32) (p2 &&& (31 : Int32)) (m0_112_0 p2 p3 p4 p5))), .unset, .unset] [(.int (((p3 &&& (255 : Int32)) <<< ((8 : Int32) &&& 31)) ||| (p4 &&& (255 : Int32))))])) _
              refine XS.istore X117.here hx rfl (hb hby at_198) rfl (l' := #[.val (.int p1), .val (.int p2), .val (.int p3), .val (.int p4), .val (.int p5), .val (.int (p1 &&& (3 : Int32))), .val (.int (p2 &&& (31 : Int32))), .val (.ref s_LINUX_SLL2), .val (.int (20 : Int32)), .val (.int (0 : Int32)), .val (.ref b96), .val (.int (f1 (20 : Int32) (0 : Int32) (p2 &&& (31 : Int32)) (m0_112_0 p2 p3 p4 p5))), .unset, .val (.int (((p3 &&& (255 : Int32)) <<< ((8 : Int32) &&& 31)) ||| (p4 &&& (255 : Int32))))]) rfl ?_
              show Steps p.tables e below (T117.setTop (mkF m 200 #[.val (.int p1), .val (.int p2), .val (.int p3), .val (.int p4), .val (.int p5), .val (.int (p1 &&& (3 : Int32))), .val (.int (p2 &&& (31 : Int32))), .val (.ref s_LINUX_SLL2), .val (.int (20 : Int32)), .val (.int (0 : Int32)), .val (.ref b96), .val (.int (f1 (20 : Int32) (0 : Int32) (p2 &&& (31 : Int32)) (m0_112_0 p2 p3 p4 p5))), .unset, .val (.int (((p3 &&& (255 : Int32)) <<< ((8 : Int32) &&& 31)) ||| (p4 &&& (255 : Int32))))] [])) _
              refine XS.iload X117.here hx rfl (hb hby at_200) rfl ?_
              show Steps p.tables e below (T117.setTop (mkF m 202 #[.val (.int p1), .val (.int p2), .val (.int p3), .val (.int p4), .val (.int p5), .val (.int (p1 &&& (3 : Int32))), .val (.int (p2 &&& (31 : Int32))), .val (.ref s_LINUX_SLL2), .val (.int (20 : Int32)), .val (.int (0 : Int32)), .val (.ref b96), .val (.int (f1 (20 : Int32) (0 : Int32) (p2 &&& (31 : Int32)) (m0_112_0 p2 p3 p4 p5))), .unset, .val (.int (((p3 &&& (255 : Int32)) <<< ((8 : Int32) &&& 31)) ||| (p4 &&& (255 : Int32))))] [(.int (((p3 &&& (255 : Int32)) <<< ((8 : Int32) &&& 31)) ||| (p4 &&& (255 : Int32))))])) _
              refine XS.sipush X117.here hx rfl (hb hby at_202) ?_
              exact k)
            by_cases hc122 : (((p3 &&& (255 : Int32)) <<< ((8 : Int32) &&& 31)) ||| (p4 &&& (255 : Int32))) = (2048 : Int32)
            · rw [show (m0_119_0 p2 p3 p4) = (4 : Int32) from by first | (rw [m0_119_0, if_pos hc120, if_pos hc122]; done) | (simp only [m0_119_0, if_pos hc120, if_pos hc122]; done) | rfl] at k
              rw [show (m0_119_1 p2 p3 p4) = .val (.int (((p3 &&& (255 : Int32)) <<< ((8 : Int32) &&& 31)) ||| (p4 &&& (255 : Int32)))) from by first | (rw [m0_119_1, if_pos hc120]; done) | (simp only [m0_119_1, if_pos hc120]; done) | rfl] at k
              refine pre121 t ?_
              show Steps p.tables e below (T117.setTop (mkF m 205 #[.val (.int p1), .val (.int p2), .val (.int p3), .val (.int p4), .val (.int p5), .val (.int (p1 &&& (3 : Int32))), .val (.int (p2 &&& (31 : Int32))), .val (.ref s_LINUX_SLL2), .val (.int (20 : Int32)), .val (.int (0 : Int32)), .val (.ref b96), .val (.int (f1 (20 : Int32) (0 : Int32) (p2 &&& (31 : Int32)) (m0_112_0 p2 p3 p4 p5))), .unset, .val (.int (((p3 &&& (255 : Int32)) <<< ((8 : Int32) &&& 31)) ||| (p4 &&& (255 : Int32))))] [(.int (2048 : Int32)), (.int (((p3 &&& (255 : Int32)) <<< ((8 : Int32) &&& 31)) ||| (p4 &&& (255 : Int32))))])) _
              refine XS.icmpNo X117.here hx rfl (hb hby at_205) rfl (teq hc122).2 ?_
              show Steps p.tables e below (T117.setTop (mkF m 208 #[.val (.int p1), .val (.int p2), .val (.int p3), .val (.int p4), .val (.int p5), .val (.int (p1 &&& (3 : Int32))), .val (.int (p2 &&& (31 : Int32))), .val (.ref s_LINUX_SLL2), .val (.int (20 : Int32)), .val (.int (0 : Int32)), .val (.ref b96), .val (.int (f1 (20 : Int32) (0 : Int32) (p2 &&& (31 : Int32)) (m0_112_0 p2 p3 p4 p5))), .unset, .val (.int (((p3 &&& (255 : Int32)) <<< ((8 : Int32) &&& 31)) ||| (p4 &&& (255 : Int32))))] [])) _
              refine XS.iconst X117.here hx rfl (hb hby at_208) ?_
              show Steps p.tables e below (T117.setTop (mkF m 209 #[.val (.int p1), .val (.int p2), .val (.int p3), .val (.int p4), .val (.int p5), .val (.int (p1 &&& (3 : Int32))), .val (.int (p2 &&& (31 : Int32))), .val (.ref s_LINUX_SLL2), .val (.int (20 : Int32)), .val (.int (0 : Int32)), .val (.ref b96), .val (.int (f1 (20 : Int32) (0 : Int32) (p2 &&& (31 : Int32)) (m0_112_0 p2 p3 p4 p5))), .unset, .val (.int (((p3 &&& (255 : Int32)) <<< ((8 : Int32) &&& 31)) ||| (p4 &&& (255 : Int32))))] [(.int (4 : Int32))])) _
              refine XS.istore X117.here hx rfl (hb hby at_209) rfl (l' := #[.val (.int p1), .val (.int p2), .val (.int p3), .val (.int p4), .val (.int p5), .val (.int (p1 &&& (3 : Int32))), .val (.int (p2 &&& (31 : Int32))), .val (.ref s_LINUX_SLL2), .val (.int (20 : Int32)), .val (.int (0 : Int32)), .val (.ref b96), .val (.int (f1 (20 : Int32) (0 : Int32) (p2 &&& (31 : Int32)) (m0_112_0 p2 p3 p4 p5))), .val (.int (4 : Int32)), .val (.int (((p3 &&& (255 : Int32)) <<< ((8 : Int32) &&& 31)) ||| (p4 &&& (255 : Int32))))]) rfl ?_
              show Steps p.tables e below (T117.setTop (mkF m 211 #[.val (.int p1), .val (.int p2), .val (.int p3), .val (.int p4), .val (.int p5), .val (.int (p1 &&& (3 : Int32))), .val (.int (p2 &&& (31 : Int32))), .val (.ref s_LINUX_SLL2), .val (.int (20 : Int32)), .val (.int (0 : Int32)), .val (.ref b96), .val (.int (f1 (20 : Int32) (0 : Int32) (p2 &&& (31 : Int32)) (m0_112_0 p2 p3 p4 p5))), .val (.int (4 : Int32)), .val (.int (((p3 &&& (255 : Int32)) <<< ((8 : Int32) &&& 31)) ||| (p4 &&& (255 : Int32))))] [])) _
              refine XS.goto X117.here hx rfl (pc0 := 211) (pc' := 231) rfl (hb hby at_211) (by decide) (by decide) ?_
              exact k
            · have pre123 : ∀ t, Steps p.tables e below (T117.setTop (mkF m 218 #[.val (.int p1), .val (.int p2), .val (.int p3), .val (.int p4), .val (.int p5), .val (.int (p1 &&& (3 : Int32))), .val (.int (p2 &&& (31 : Int32))), .val (.ref s_LINUX_SLL2), .val (.int (20 : Int32)), .val (.int (0 : Int32)), .val (.ref b96), .val (.int (f1 (20 : Int32) (0 : Int32) (p2 &&& (31 : Int32)) (m0_112_0 p2 p3 p4 p5))), .unset, .val (.int (((p3 &&& (255 : Int32)) <<< ((8 : Int32) &&& 31)) ||| (p4 &&& (255 : Int32))))] [(.int (34525 : Int32)), (.int (((p3 &&& (255 : Int32)) <<< ((8 : Int32) &&& 31)) ||| (p4 &&& (255 : Int32))))])) t → Steps p.tables e below (s₁.setTop (entryFrame m #[(.int p1), (.int p2), (.int p3), (.int p4), (.int p5)] maxLocals)) t := fun t k => pre121 t (by
                show Steps p.tables e below (T117.setTop (mkF m 205 #[.val (.int p1), .val (.int p2), .val (.int p3), .val (.int p4), .val (.int p5), .val (.int (p1 &&& (3 : Int32))), .val (.int (p2 &&& (31 : Int32))), .val (.ref s_LINUX_SLL2), .val (.int (20 : Int32)), .val (.int (0 : Int32)), .val (.ref b96), .val (.int (f1 (20 : Int32) (0 : Int32) (p2 &&& (31 : Int32)) (m0_112_0 p2 p3 p4 p5))), .unset, .val (.int (((p3 &&& (255 : Int32)) <<< ((8 : Int32) &&& 31)) ||| (p4 &&& (255 : Int32))))] [(.int (2048 : Int32)), (.int (((p3 &&& (255 : Int32)) <<< ((8 : Int32) &&& 31)) ||| (p4 &&& (255 : Int32))))])) _
                refine XS.icmpYes X117.here hx rfl (pc0 := 205) (pc' := 214) rfl (hb hby at_205) rfl (feq hc122).2 (by decide) (by decide) ?_
                show Steps p.tables e below (T117.setTop (mkF m 214 #[.val (.int p1), .val (.int p2), .val (.int p3), .val (.int p4), .val (.int p5), .val (.int (p1 &&& (3 : Int32))), .val (.int (p2 &&& (31 : Int32))), .val (.ref s_LINUX_SLL2), .val (.int (20 : Int32)), .val (.int (0 : Int32)), .val (.ref b96), .val (.int (f1 (20 : Int32) (0 : Int32) (p2 &&& (31 : Int32)) (m0_112_0 p2 p3 p4 p5))), .unset, .val (.int (((p3 &&& (255 : Int32)) <<< ((8 : Int32) &&& 31)) ||| (p4 &&& (255 : Int32))))] [])) _
                refine XS.iload X117.here hx rfl (hb hby at_214) rfl ?_
                show Steps p.tables e below (T117.setTop (mkF m 216 #[.val (.int p1), .val (.int p2), .val (.int p3), .val (.int p4), .val (.int p5), .val (.int (p1 &&& (3 : Int32))), .val (.int (p2 &&& (31 : Int32))), .val (.ref s_LINUX_SLL2), .val (.int (20 : Int32)), .val (.int (0 : Int32)), .val (.ref b96), .val (.int (f1 (20 : Int32) (0 : Int32) (p2 &&& (31 : Int32)) (m0_112_0 p2 p3 p4 p5))), .unset, .val (.int (((p3 &&& (255 : Int32)) <<< ((8 : Int32) &&& 31)) ||| (p4 &&& (255 : Int32))))] [(.int (((p3 &&& (255 : Int32)) <<< ((8 : Int32) &&& 31)) ||| (p4 &&& (255 : Int32))))])) _
                refine X117.ldcInt hx hown (mvT hZ (hw _ (List.mem_of_getElem? (i := 16) rfl))) (g := (mkF m 216 #[.val (.int p1), .val (.int p2), .val (.int p3), .val (.int p4), .val (.int p5), .val (.int (p1 &&& (3 : Int32))), .val (.int (p2 &&& (31 : Int32))), .val (.ref s_LINUX_SLL2), .val (.int (20 : Int32)), .val (.int (0 : Int32)), .val (.ref b96), .val (.int (f1 (20 : Int32) (0 : Int32) (p2 &&& (31 : Int32)) (m0_112_0 p2 p3 p4 p5))), .unset, .val (.int (((p3 &&& (255 : Int32)) <<< ((8 : Int32) &&& 31)) ||| (p4 &&& (255 : Int32))))] [(.int (((p3 &&& (255 : Int32)) <<< ((8 : Int32) &&& 31)) ||| (p4 &&& (255 : Int32))))])) rfl (hb hby at_216) _ ?_
                exact k)
              by_cases hc124 : (((p3 &&& (255 : Int32)) <<< ((8 : Int32) &&& 31)) ||| (p4 &&& (255 : Int32))) = (34525 : Int32)
              · rw [show (m0_119_0 p2 p3 p4) = (6 : Int32) from by first | (rw [m0_119_0, if_pos hc120, if_neg hc122, if_pos hc124]; done) | (simp only [m0_119_0, if_pos hc120, if_neg hc122, if_pos hc124]; done) | rfl] at k
                rw [show (m0_119_1 p2 p3 p4) = .val (.int (((p3 &&& (255 : Int32)) <<< ((8 : Int32) &&& 31)) ||| (p4 &&& (255 : Int32)))) from by first | (rw [m0_119_1, if_pos hc120]; done) | (simp only [m0_119_1, if_pos hc120]; done) | rfl] at k
                refine pre123 t ?_
                show Steps p.tables e below (T117.setTop (mkF m 218 #[.val (.int p1), .val (.int p2), .val (.int p3), .val (.int p4), .val (.int p5), .val (.int (p1 &&& (3 : Int32))), .val (.int (p2 &&& (31 : Int32))), .val (.ref s_LINUX_SLL2), .val (.int (20 : Int32)), .val (.int (0 : Int32)), .val (.ref b96), .val (.int (f1 (20 : Int32) (0 : Int32) (p2 &&& (31 : Int32)) (m0_112_0 p2 p3 p4 p5))), .unset, .val (.int (((p3 &&& (255 : Int32)) <<< ((8 : Int32) &&& 31)) ||| (p4 &&& (255 : Int32))))] [(.int (34525 : Int32)), (.int (((p3 &&& (255 : Int32)) <<< ((8 : Int32) &&& 31)) ||| (p4 &&& (255 : Int32))))])) _
                refine XS.icmpNo X117.here hx rfl (hb hby at_218) rfl (teq hc124).2 ?_
                show Steps p.tables e below (T117.setTop (mkF m 221 #[.val (.int p1), .val (.int p2), .val (.int p3), .val (.int p4), .val (.int p5), .val (.int (p1 &&& (3 : Int32))), .val (.int (p2 &&& (31 : Int32))), .val (.ref s_LINUX_SLL2), .val (.int (20 : Int32)), .val (.int (0 : Int32)), .val (.ref b96), .val (.int (f1 (20 : Int32) (0 : Int32) (p2 &&& (31 : Int32)) (m0_112_0 p2 p3 p4 p5))), .unset, .val (.int (((p3 &&& (255 : Int32)) <<< ((8 : Int32) &&& 31)) ||| (p4 &&& (255 : Int32))))] [])) _
                refine XS.bipush X117.here hx rfl (hb hby at_221) ?_
                show Steps p.tables e below (T117.setTop (mkF m 223 #[.val (.int p1), .val (.int p2), .val (.int p3), .val (.int p4), .val (.int p5), .val (.int (p1 &&& (3 : Int32))), .val (.int (p2 &&& (31 : Int32))), .val (.ref s_LINUX_SLL2), .val (.int (20 : Int32)), .val (.int (0 : Int32)), .val (.ref b96), .val (.int (f1 (20 : Int32) (0 : Int32) (p2 &&& (31 : Int32)) (m0_112_0 p2 p3 p4 p5))), .unset, .val (.int (((p3 &&& (255 : Int32)) <<< ((8 : Int32) &&& 31)) ||| (p4 &&& (255 : Int32))))] [(.int (6 : Int32))])) _
                refine XS.istore X117.here hx rfl (hb hby at_223) rfl (l' := #[.val (.int p1), .val (.int p2), .val (.int p3), .val (.int p4), .val (.int p5), .val (.int (p1 &&& (3 : Int32))), .val (.int (p2 &&& (31 : Int32))), .val (.ref s_LINUX_SLL2), .val (.int (20 : Int32)), .val (.int (0 : Int32)), .val (.ref b96), .val (.int (f1 (20 : Int32) (0 : Int32) (p2 &&& (31 : Int32)) (m0_112_0 p2 p3 p4 p5))), .val (.int (6 : Int32)), .val (.int (((p3 &&& (255 : Int32)) <<< ((8 : Int32) &&& 31)) ||| (p4 &&& (255 : Int32))))]) rfl ?_
                show Steps p.tables e below (T117.setTop (mkF m 225 #[.val (.int p1), .val (.int p2), .val (.int p3), .val (.int p4), .val (.int p5), .val (.int (p1 &&& (3 : Int32))), .val (.int (p2 &&& (31 : Int32))), .val (.ref s_LINUX_SLL2), .val (.int (20 : Int32)), .val (.int (0 : Int32)), .val (.ref b96), .val (.int (f1 (20 : Int32) (0 : Int32) (p2 &&& (31 : Int32)) (m0_112_0 p2 p3 p4 p5))), .val (.int (6 : Int32)), .val (.int (((p3 &&& (255 : Int32)) <<< ((8 : Int32) &&& 31)) ||| (p4 &&& (255 : Int32))))] [])) _
                refine XS.goto X117.here hx rfl (pc0 := 225) (pc' := 231) rfl (hb hby at_225) (by decide) (by decide) ?_
                exact k
              · rw [show (m0_119_0 p2 p3 p4) = (0 : Int32) from by first | (rw [m0_119_0, if_pos hc120, if_neg hc122, if_neg hc124]; done) | (simp only [m0_119_0, if_pos hc120, if_neg hc122, if_neg hc124]; done) | rfl] at k
                rw [show (m0_119_1 p2 p3 p4) = .val (.int (((p3 &&& (255 : Int32)) <<< ((8 : Int32) &&& 31)) ||| (p4 &&& (255 : Int32)))) from by first | (rw [m0_119_1, if_pos hc120]; done) | (simp only [m0_119_1, if_pos hc120]; done) | rfl] at k
                refine pre123 t ?_
                show Steps p.tables e below (T117.setTop (mkF m 218 #[.val (.int p1), .val (.int p2), .val (.int p3), .val (.int p4), .val (.int p5), .val (.int (p1 &&& (3 : Int32))), .val (.int (p2 &&& (31 : Int32))), .val (.ref s_LINUX_SLL2), .val (.int (20 : Int32)), .val (.int (0 : Int32)), .val (.ref b96), .val (.int (f1 (20 : Int32) (0 : Int32) (p2 &&& (31 : Int32)) (m0_112_0 p2 p3 p4 p5))), .unset, .val (.int (((p3 &&& (255 : Int32)) <<< ((8 : Int32) &&& 31)) ||| (p4 &&& (255 : Int32))))] [(.int (34525 : Int32)), (.int (((p3 &&& (255 : Int32)) <<< ((8 : Int32) &&& 31)) ||| (p4 &&& (255 : Int32))))])) _
                refine XS.icmpYes X117.here hx rfl (pc0 := 218) (pc' := 228) rfl (hb hby at_218) rfl (feq hc124).2 (by decide) (by decide) ?_
                show Steps p.tables e below (T117.setTop (mkF m 228 #[.val (.int p1), .val (.int p2), .val (.int p3), .val (.int p4), .val (.int p5), .val (.int (p1 &&& (3 : Int32))), .val (.int (p2 &&& (31 : Int32))), .val (.ref s_LINUX_SLL2), .val (.int (20 : Int32)), .val (.int (0 : Int32)), .val (.ref b96), .val (.int (f1 (20 : Int32) (0 : Int32) (p2 &&& (31 : Int32)) (m0_112_0 p2 p3 p4 p5))), .unset, .val (.int (((p3 &&& (255 : Int32)) <<< ((8 : Int32) &&& 31)) ||| (p4 &&& (255 : Int32))))] [])) _
                refine XS.iconst X117.here hx rfl (hb hby at_228) ?_
                show Steps p.tables e below (T117.setTop (mkF m 229 #[.val (.int p1), .val (.int p2), .val (.int p3), .val (.int p4), .val (.int p5), .val (.int (p1 &&& (3 : Int32))), .val (.int (p2 &&& (31 : Int32))), .val (.ref s_LINUX_SLL2), .val (.int (20 : Int32)), .val (.int (0 : Int32)), .val (.ref b96), .val (.int (f1 (20 : Int32) (0 : Int32) (p2 &&& (31 : Int32)) (m0_112_0 p2 p3 p4 p5))), .unset, .val (.int (((p3 &&& (255 : Int32)) <<< ((8 : Int32) &&& 31)) ||| (p4 &&& (255 : Int32))))] [(.int (0 : Int32))])) _
                refine XS.istore X117.here hx rfl (hb hby at_229) rfl (l' := #[.val (.int p1), .val (.int p2), .val (.int p3), .val (.int p4), .val (.int p5), .val (.int (p1 &&& (3 : Int32))), .val (.int (p2 &&& (31 : Int32))), .val (.ref s_LINUX_SLL2), .val (.int (20 : Int32)), .val (.int (0 : Int32)), .val (.ref b96), .val (.int (f1 (20 : Int32) (0 : Int32) (p2 &&& (31 : Int32)) (m0_112_0 p2 p3 p4 p5))), .val (.int (0 : Int32)), .val (.int (((p3 &&& (255 : Int32)) <<< ((8 : Int32) &&& 31)) ||| (p4 &&& (255 : Int32))))]) rfl ?_
                exact k
          · rw [show (m0_119_0 p2 p3 p4) = (0 : Int32) from by first | (rw [m0_119_0, if_neg hc120]; done) | (simp only [m0_119_0, if_neg hc120]; done) | rfl] at k
            rw [show (m0_119_1 p2 p3 p4) = .unset from by first | (rw [m0_119_1, if_neg hc120]; done) | (simp only [m0_119_1, if_neg hc120]; done) | rfl] at k
            refine pre118 t ?_
            show Steps p.tables e below (T117.setTop (mkF m 157 #[.val (.int p1), .val (.int p2), .val (.int p3), .val (.int p4), .val (.int p5), .val (.int (p1 &&& (3 : Int32))), .val (.int (p2 &&& (31 : Int32))), .val (.ref s_LINUX_SLL2), .val (.int (20 : Int32)), .val (.int (0 : Int32)), .val (.ref b96), .val (.int (f1 (20 : Int32) (0 : Int32) (p2 &&& (31 : Int32)) (m0_112_0 p2 p3 p4 p5))), .unset, .unset] [(.int (20 : Int32)), (.int (p2 &&& (31 : Int32)))])) _
            refine XS.icmpNo X117.here hx rfl (hb hby at_157) rfl (flt hc120).2.2.1 ?_
            show Steps p.tables e below (T117.setTop (mkF m 160 #[.val (.int p1), .val (.int p2), .val (.int p3), .val (.int p4), .val (.int p5), .val (.int (p1 &&& (3 : Int32))), .val (.int (p2 &&& (31 : Int32))), .val (.ref s_LINUX_SLL2), .val (.int (20 : Int32)), .val (.int (0 : Int32)), .val (.ref b96), .val (.int (f1 (20 : Int32) (0 : Int32) (p2 &&& (31 : Int32)) (m0_112_0 p2 p3 p4 p5))), .unset, .unset] [])) _
            refine XS.iconst X117.here hx rfl (hb hby at_160) ?_
            show Steps p.tables e below (T117.setTop (mkF m 161 #[.val (.int p1), .val (.int p2), .val (.int p3), .val (.int p4), .val (.int p5), .val (.int (p1 &&& (3 : Int32))), .val (.int (p2 &&& (31 : Int32))), .val (.ref s_LINUX_SLL2), .val (.int (20 : Int32)), .val (.int (0 : Int32)), .val (.ref b96), .val (.int (f1 (20 : Int32) (0 : Int32) (p2 &&& (31 : Int32)) (m0_112_0 p2 p3 p4 p5))), .unset, .unset] [(.int (0 : Int32))])) _
            refine XS.istore X117.here hx rfl (hb hby at_161) rfl (l' := #[.val (.int p1), .val (.int p2), .val (.int p3), .val (.int p4), .val (.int p5), .val (.int (p1 &&& (3 : Int32))), .val (.int (p2 &&& (31 : Int32))), .val (.ref s_LINUX_SLL2), .val (.int (20 : Int32)), .val (.int (0 : Int32)), .val (.ref b96), .val (.int (f1 (20 : Int32) (0 : Int32) (p2 &&& (31 : Int32)) (m0_112_0 p2 p3 p4 p5))), .val (.int (0 : Int32)), .unset]) rfl ?_
            show Steps p.tables e below (T117.setTop (mkF m 163 #[.val (.int p1), .val (.int p2), .val (.int p3), .val (.int p4), .val (.int p5), .val (.int (p1 &&& (3 : Int32))), .val (.int (p2 &&& (31 : Int32))), .val (.ref s_LINUX_SLL2), .val (.int (20 : Int32)), .val (.int (0 : Int32)), .val (.ref b96), .val (.int (f1 (20 : Int32) (0 : Int32) (p2 &&& (31 : Int32)) (m0_112_0 p2 p3 p4 p5))), .val (.int (0 : Int32)), .unset] [])) _
            refine XS.goto X117.here hx rfl (pc0 := 163) (pc' := 231) rfl (hb hby at_163) (by decide) (by decide) ?_
            exact k
        have pre125 : ∀ t, Steps p.tables e below (T117.setTop (mkF m 235 #[.val (.int p1), .val (.int p2), .val (.int p3), .val (.int p4), .val (.int p5), .val (.int (p1 &&& (3 : Int32))), .val (.int (p2 &&& (31 : Int32))), .val (.ref s_LINUX_SLL2), .val (.int (20 : Int32)), .val (.int (0 : Int32)), .val (.ref b96), .val (.int (f1 (20 : Int32) (0 : Int32) (p2 &&& (31 : Int32)) (m0_112_0 p2 p3 p4 p5))), .val (.int (m0_119_0 p2 p3 p4)), (m0_119_1 p2 p3 p4)] [(.int (m0_119_0 p2 p3 p4)), (.int (f1 (20 : Int32) (0 : Int32) (p2 &&& (31 : Int32)) (m0_112_0 p2 p3 p4 p5)))])) t → Steps p.tables e below (s₁.setTop (entryFrame m #[(.int p1), (.int p2), (.int p3), (.int p4), (.int p5)] maxLocals)) t := fun t k => pre119 t (by
          show Steps p.tables e below (T117.setTop (mkF m 231 #[.val (.int p1), .val (.int p2), .val (.int p3), .val (.int p4), .val (.int p5), .val (.int (p1 &&& (3 : Int32))), .val (.int (p2 &&& (31 : Int32))), .val (.ref s_LINUX_SLL2), .val (.int (20 : Int32)), .val (.int (0 : Int32)), .val (.ref b96), .val (.int (f1 (20 : Int32) (0 : Int32) (p2 &&& (31 : Int32)) (m0_112_0 p2 p3 p4 p5))), .val (.int (m0_119_0 p2 p3 p4)), (m0_119_1 p2 p3 p4)] [])) _
          refine XS.iload X117.here hx rfl (hb hby at_231) rfl ?_
          show Steps p.tables e below (T117.setTop (mkF m 233 #[.val (.int p1), .val (.int p2), .val (.int p3), .val (.int p4), .val (.int p5), .val (.int (p1 &&& (3 : Int32))), .val (.int (p2 &&& (31 : Int32))), .val (.ref s_LINUX_SLL2), .val (.int (20 : Int32)), .val (.int (0 : Int32)), .val (.ref b96), .val (.int (f1 (20 : Int32) (0 : Int32) (p2 &&& (31 : Int32)) (m0_112_0 p2 p3 p4 p5))), .val (.int (m0_119_0 p2 p3 p4)), (m0_119_1 p2 p3 p4)] [(.int (f1 (20 : Int32) (0 : Int32) (p2 &&& (31 : Int32)) (m0_112_0 p2 p3 p4 p5)))])) _
          refine XS.iload X117.here hx rfl (hb hby at_233) rfl ?_
          exact k)
        by_cases hc126 : (f1 (20 : Int32) (0 : Int32) (p2 &&& (31 : Int32)) (m0_112_0 p2 p3 p4 p5)) = (m0_119_0 p2 p3 p4)
        · obtain ⟨fs, hr, hrun, hended, hW, hsame⟩ := X117.leave (v := some (.int (1 : Int32))) (fun h => by rw [Bd.returns] at h; cases h)
          refine ⟨_, _, pre125 _ ?_, hrun, hended, _, _, rfl, ?_, ⟨_, rfl⟩, hW, hsame.mono (by decide) (by decide)⟩
          · show Steps p.tables e below (T117.setTop (mkF m 235 #[.val (.int p1), .val (.int p2), .val (.int p3), .val (.int p4), .val (.int p5), .val (.int (p1 &&& (3 : Int32))), .val (.int (p2 &&& (31 : Int32))), .val (.ref s_LINUX_SLL2), .val (.int (20 : Int32)), .val (.int (0 : Int32)), .val (.ref b96), .val (.int (f1 (20 : Int32) (0 : Int32) (p2 &&& (31 : Int32)) (m0_112_0 p2 p3 p4 p5))), .val (.int (m0_119_0 p2 p3 p4)), (m0_119_1 p2 p3 p4)] [(.int (m0_119_0 p2 p3 p4)), (.int (f1 (20 : Int32) (0 : Int32) (p2 &&& (31 : Int32)) (m0_112_0 p2 p3 p4 p5)))])) _
            refine XS.icmpNo X117.here hx rfl (hb hby at_235) rfl (teq hc126).2 ?_
            show Steps p.tables e below (T117.setTop (mkF m 238 #[.val (.int p1), .val (.int p2), .val (.int p3), .val (.int p4), .val (.int p5), .val (.int (p1 &&& (3 : Int32))), .val (.int (p2 &&& (31 : Int32))), .val (.ref s_LINUX_SLL2), .val (.int (20 : Int32)), .val (.int (0 : Int32)), .val (.ref b96), .val (.int (f1 (20 : Int32) (0 : Int32) (p2 &&& (31 : Int32)) (m0_112_0 p2 p3 p4 p5))), .val (.int (m0_119_0 p2 p3 p4)), (m0_119_1 p2 p3 p4)] [])) _
            refine XS.iconst X117.here hx rfl (hb hby at_238) ?_
            show Steps p.tables e below (T117.setTop (mkF m 239 #[.val (.int p1), .val (.int p2), .val (.int p3), .val (.int p4), .val (.int p5), .val (.int (p1 &&& (3 : Int32))), .val (.int (p2 &&& (31 : Int32))), .val (.ref s_LINUX_SLL2), .val (.int (20 : Int32)), .val (.int (0 : Int32)), .val (.ref b96), .val (.int (f1 (20 : Int32) (0 : Int32) (p2 &&& (31 : Int32)) (m0_112_0 p2 p3 p4 p5))), .val (.int (m0_119_0 p2 p3 p4)), (m0_119_1 p2 p3 p4)] [(.int (1 : Int32))])) _
            refine XS.goto X117.here hx rfl (pc0 := 239) (pc' := 243) rfl (hb hby at_239) (by decide) (by decide) ?_
            show Steps p.tables e below (T117.setTop (mkF m 243 #[.val (.int p1), .val (.int p2), .val (.int p3), .val (.int p4), .val (.int p5), .val (.int (p1 &&& (3 : Int32))), .val (.int (p2 &&& (31 : Int32))), .val (.ref s_LINUX_SLL2), .val (.int (20 : Int32)), .val (.int (0 : Int32)), .val (.ref b96), .val (.int (f1 (20 : Int32) (0 : Int32) (p2 &&& (31 : Int32)) (m0_112_0 p2 p3 p4 p5))), .val (.int (m0_119_0 p2 p3 p4)), (m0_119_1 p2 p3 p4)] [(.int (1 : Int32))])) _
            exact retN X117 hx (t := .boolean) Bd.returns (by simp) (hb hby at_243) hr
          · show Q0 Z p1 p2 p3 p4 p5 s_ETHERNET s_LINUX_SLL2 s_LINUX_SLL s_RAW h0 n0 _ T117.heap _
            rw [e117]
            exact ⟨by rw [show (f0 p1 p2 p3 p4 p5) = (1 : Int32) from by first | (rw [f0, if_neg hc2, if_neg hc38, if_neg hc60, if_pos hc126]; done) | (simp only [f0, if_neg hc2, if_neg hc38, if_neg hc60, if_pos hc126]; done) | rfl], N117⟩
        · obtain ⟨fs, hr, hrun, hended, hW, hsame⟩ := X117.leave (v := some (.int (0 : Int32))) (fun h => by rw [Bd.returns] at h; cases h)
          refine ⟨_, _, pre125 _ ?_, hrun, hended, _, _, rfl, ?_, ⟨_, rfl⟩, hW, hsame.mono (by decide) (by decide)⟩
          · show Steps p.tables e below (T117.setTop (mkF m 235 #[.val (.int p1), .val (.int p2), .val (.int p3), .val (.int p4), .val (.int p5), .val (.int (p1 &&& (3 : Int32))), .val (.int (p2 &&& (31 : Int32))), .val (.ref s_LINUX_SLL2), .val (.int (20 : Int32)), .val (.int (0 : Int32)), .val (.ref b96), .val (.int (f1 (20 : Int32) (0 : Int32) (p2 &&& (31 : Int32)) (m0_112_0 p2 p3 p4 p5))), .val (.int (m0_119_0 p2 p3 p4)), (m0_119_1 p2 p3 p4)] [(.int (m0_119_0 p2 p3 p4)), (.int (f1 (20 : Int32) (0 : Int32) (p2 &&& (31 : Int32)) (m0_112_0 p2 p3 p4 p5)))])) _
            refine XS.icmpYes X117.here hx rfl (pc0 := 235) (pc' := 242) rfl (hb hby at_235) rfl (feq hc126).2 (by decide) (by decide) ?_
            show Steps p.tables e below (T117.setTop (mkF m 242 #[.val (.int p1), .val (.int p2), .val (.int p3), .val (.int p4), .val (.int p5), .val (.int (p1 &&& (3 : Int32))), .val (.int (p2 &&& (31 : Int32))), .val (.ref s_LINUX_SLL2), .val (.int (20 : Int32)), .val (.int (0 : Int32)), .val (.ref b96), .val (.int (f1 (20 : Int32) (0 : Int32) (p2 &&& (31 : Int32)) (m0_112_0 p2 p3 p4 p5))), .val (.int (m0_119_0 p2 p3 p4)), (m0_119_1 p2 p3 p4)] [])) _
            refine XS.iconst X117.here hx rfl (hb hby at_242) ?_
            show Steps p.tables e below (T117.setTop (mkF m 243 #[.val (.int p1), .val (.int p2), .val (.int p3), .val (.int p4), .val (.int p5), .val (.int (p1 &&& (3 : Int32))), .val (.int (p2 &&& (31 : Int32))), .val (.ref s_LINUX_SLL2), .val (.int (20 : Int32)), .val (.int (0 : Int32)), .val (.ref b96), .val (.int (f1 (20 : Int32) (0 : Int32) (p2 &&& (31 : Int32)) (m0_112_0 p2 p3 p4 p5))), .val (.int (m0_119_0 p2 p3 p4)), (m0_119_1 p2 p3 p4)] [(.int (0 : Int32))])) _
            exact retN X117 hx (t := .boolean) Bd.returns (by simp) (hb hby at_243) hr
          · show Q0 Z p1 p2 p3 p4 p5 s_ETHERNET s_LINUX_SLL2 s_LINUX_SLL s_RAW h0 n0 _ T117.heap _
            rw [e117]
            exact ⟨by rw [show (f0 p1 p2 p3 p4 p5) = (0 : Int32) from by first | (rw [f0, if_neg hc2, if_neg hc38, if_neg hc60, if_neg hc126]; done) | (simp only [f0, if_neg hc2, if_neg hc38, if_neg hc60, if_neg hc126]; done) | rfl], N117⟩

theorem own_bi (x : Int32) : ((x.toInt8.toInt32).toInt8.toInt32).toInt = x.toInt.bmod (2 ^ 8) := by
  rw [Int8.toInt_toInt32, Int32.toInt_toInt8, Int8.toInt_toInt32, Int32.toInt_toInt8, Int.bmod_bmod]
theorem own_b (x : Int32) : (((x.toInt8.toInt32).toInt8.toInt32) &&& 255) = (x &&& 255) := by
  rw [← Int32.toInt_inj, Jvm.Kit.i32_mask _ 255 (k := 8) (by decide) (by decide), Jvm.Kit.i32_mask _ 255 (k := 8) (by decide) (by decide), own_bi, Int.bmod_def]
  omega
theorem own_hi (x : Int32) : ((((x.toInt8.toInt32).toInt8.toInt32) >>> ((4 : Int32) &&& 31)) &&& 15) = ((x &&& 255) >>> ((4 : Int32) &&& 31)) := by
  rw [← Int32.toInt_inj, Jvm.Kit.i32_mask _ 15 (k := 4) (by decide) (by decide), Jvm.Kit.i32_shr _ _ (k := 4) (by decide), Jvm.Kit.i32_shr _ _ (k := 4) (by decide), Jvm.Kit.i32_mask _ 255 (k := 8) (by decide) (by decide), own_bi, Int.bmod_def]
  omega

theorem own_eth (p2 p3 p4 p5 : Int32) : f1 14 12 (p2 &&& 31) (m0_20_0 p2 p3 p4 p5) = m0_27_0 p2 p3 p4 := by
  rw [f1, m0_27_0]
  by_cases h : (14 : Int32) < (p2 &&& 31)
  · have h1 : (12 : Int32) < (p2 &&& 31) := own_tr (by decide) h
    have h2 : (13 : Int32) < (p2 &&& 31) := own_tr (by decide) h
    have v1 : m0_20_0 p2 p3 p4 p5 (12 : Int32).toNatClampNeg = ((p3.toInt8.toInt32).toInt8.toInt32) := by rw [m0_20_0, if_pos h, m0_15_0, if_pos h2, m0_10_0, if_pos h1]; rfl
    have v2 : m0_20_0 p2 p3 p4 p5 ((12 : Int32) + 1).toNatClampNeg = ((p4.toInt8.toInt32).toInt8.toInt32) := by rw [m0_20_0, if_pos h, m0_15_0, if_pos h2]; rfl
    rw [if_pos h, if_neg (by decide), v1, v2, own_b, own_b, if_pos h]
  · rw [if_neg h, if_neg h]

theorem own_sll (p2 p3 p4 p5 : Int32) : f1 16 14 (p2 &&& 31) (m0_78_0 p2 p3 p4 p5) = m0_85_0 p2 p3 p4 := by
  rw [f1, m0_85_0]
  by_cases h : (16 : Int32) < (p2 &&& 31)
  · have h1 : (14 : Int32) < (p2 &&& 31) := own_tr (by decide) h
    have h2 : (15 : Int32) < (p2 &&& 31) := own_tr (by decide) h
    have v1 : m0_78_0 p2 p3 p4 p5 (14 : Int32).toNatClampNeg = ((p3.toInt8.toInt32).toInt8.toInt32) := by rw [m0_78_0, if_pos h, m0_73_0, if_pos h2, m0_68_0, if_pos h1]; rfl
    have v2 : m0_78_0 p2 p3 p4 p5 ((14 : Int32) + 1).toNatClampNeg = ((p4.toInt8.toInt32).toInt8.toInt32) := by rw [m0_78_0, if_pos h, m0_73_0, if_pos h2]; rfl
    rw [if_pos h, if_neg (by decide), v1, v2, own_b, own_b, if_pos h]
  · rw [if_neg h, if_neg h]

theorem own_sl2 (p2 p3 p4 p5 : Int32) : f1 20 0 (p2 &&& 31) (m0_112_0 p2 p3 p4 p5) = m0_119_0 p2 p3 p4 := by
  rw [f1, m0_119_0]
  by_cases h : (20 : Int32) < (p2 &&& 31)
  · have h1 : (0 : Int32) < (p2 &&& 31) := own_tr (by decide) h
    have h2 : (1 : Int32) < (p2 &&& 31) := own_tr (by decide) h
    have v1 : m0_112_0 p2 p3 p4 p5 (0 : Int32).toNatClampNeg = ((p3.toInt8.toInt32).toInt8.toInt32) := by rw [m0_112_0, if_pos h, m0_107_0, if_pos h2, m0_102_0, if_pos h1]; rfl
    have v2 : m0_112_0 p2 p3 p4 p5 ((0 : Int32) + 1).toNatClampNeg = ((p4.toInt8.toInt32).toInt8.toInt32) := by rw [m0_112_0, if_pos h, m0_107_0, if_pos h2]; rfl
    rw [if_pos h, if_neg (by decide), v1, v2, own_b, own_b, if_pos h]
  · rw [if_neg h, if_neg h]

theorem own_raw (p2 p5 : Int32) : f1 0 (-1) (p2 &&& 31) (m0_46_0 p2 p5) = m0_53_0 p2 p5 := by
  rw [f1, m0_53_0]
  by_cases h : (0 : Int32) < (p2 &&& 31)
  · have v1 : m0_46_0 p2 p5 (0 : Int32).toNatClampNeg = ((p5.toInt8.toInt32).toInt8.toInt32) := by rw [m0_46_0, if_pos h]; rfl
    rw [if_pos h, if_pos (by decide), v1, own_hi, if_pos h]
  · rw [if_neg h, if_neg h]
theorem own_main (p1 : Int32) (p2 : Int32) (p3 : Int32) (p4 : Int32) (p5 : Int32) : (f0 p1 p2 p3 p4 p5) = 1 := by
  rw [f0, own_eth, own_sll, own_sl2, own_raw]
  split
  · rw [if_pos rfl]
  · split
    · rw [if_pos rfl]
    · split <;> rw [if_pos rfl]

set_option maxRecDepth 65536 in
set_option maxHeartbeats 40000000 in
theorem comes_1 {Post : Tables → Env → Array Value → State → Outcome → State → Prop} (hpost : ∀ tb e args s v u, (limb_1_1.after args s (.returned v) u = true ∧ limb_1_2.after args s (.returned v) u = true ∧ True) → FrameEnd s (.returned v) u (Jvm.fieldLocs frame_1_writes args s ++ Jvm.arrayLocs frame_1_arrays args s ++ Jvm.staticLocs frame_1_statics s) 16 128 → Post tb e args s (.returned v) u) :
    ArmFor flags0 classFile x code maxLocals ret World_1 tables_1 room_1 Calls_1 rest_1 Pre_1 Post := by
  intro l hfl _ _ p e ha hc hk s m args below hf hA hF happ hP
  obtain ⟨hcalls, hrest, hpre⟩ := hP
  obtain ⟨-, -, -, hnamed, -, -, -, hat⟩ := (Spec.applies_iff hf).mp happ
  obtain ⟨hg, hn⟩ := and_e (Cond.before_iff.mp (show (Jvm.Cond.and given_1 narrow_1).before args s = true from hpre))
  obtain ⟨g1, g2⟩ := and_e hg
  obtain ⟨g3, g4⟩ := and_e g2
  obtain ⟨g5, g6⟩ := and_e g4
  obtain ⟨g7, g8⟩ := and_e g6
  obtain ⟨g9, g10⟩ := and_e g8
  obtain ⟨w0, w1, w2, w3, w4, rfl⟩ : ∃ w0 w1 w2 w3 w4 : Value, args = #[w0, w1, w2, w3, w4] := by
    have hs : args.size = 5 := by simpa [Cond.value, given_1] using g1
    obtain ⟨L⟩ := args
    match L, hs with
    | [w0, w1, w2, w3, w4], _ => exact ⟨w0, w1, w2, w3, w4, rfl⟩
  have hw := fun d (hd : d ∈ tables_1) => atoms_spec (ws := Jvm.Cond.code x code maxLocals ret :: tables_1) hat d (List.mem_cons_of_mem _ hd)
  have hfit : Fit s := fun {y c} hc i hi => by
    obtain ⟨ha, rfl⟩ := Array.getElem?_eq_some_iff.mp hc
    have q := List.all_eq_true.mp ((Array.all_eq_true_iff_forall_mem.mp hF) _ (Array.getElem_mem ha)) i (List.mem_range.mpr hi)
    simpa [Array.getElem?_eq_getElem hi] using q
  obtain ⟨i0, ei0⟩ := is_v g3
  obtain rfl : w0 = (.int i0) := Option.some.inj ei0
  obtain ⟨i1, ei1⟩ := is_v g5
  obtain rfl : w1 = (.int i1) := Option.some.inj ei1
  obtain ⟨i2, ei2⟩ := is_v g7
  obtain rfl : w2 = (.int i2) := Option.some.inj ei2
  obtain ⟨i3, ei3⟩ := is_v g9
  obtain rfl : w3 = (.int i3) := Option.some.inj ei3
  obtain ⟨i4, ei4⟩ := is_v g10
  obtain rfl : w4 = (.int i4) := Option.some.inj ei4
  obtain ⟨hn1, hn2⟩ := and_e hn
  obtain ⟨hn3, hn4⟩ := and_e hn2
  obtain ⟨hn5, hn6⟩ := and_e hn4
  obtain ⟨hn7, hn8⟩ := and_e hn6
  obtain ⟨hn9, hn10⟩ := and_e hn8
  obtain ⟨hn11, hn12⟩ := and_e hn10
  obtain ⟨hn13, hn14⟩ := and_e hn12
  obtain ⟨hn15, hn16⟩ := and_e hn14
  obtain ⟨hn17, hn18⟩ := and_e hn16
  obtain ⟨hn19, hn20⟩ := and_e hn18
  obtain ⟨hn21, hn22⟩ := and_e hn20
  obtain ⟨s_ETHERNET, ev_s_ETHERNET⟩ := exa_v hn1
  have S_s_ETHERNET : Sta s s.heap "com/example/waymark/waymark/cli/LinkType" "ETHERNET" "Lcom/example/waymark/waymark/cli/LinkType;" (.ref s_ETHERNET) := Sta.start ev_s_ETHERNET (Or.inr ⟨(hw _ (List.mem_of_getElem? (i := 1) rfl)), (hw _ (List.mem_of_getElem? (i := 2) rfl))⟩)
  have E_s_ETHERNET : Exa s s.heap s_ETHERNET "com/example/waymark/waymark/cli/LinkType" := Exa.start ev_s_ETHERNET hn1
  obtain ⟨s_LINUX_SLL2, ev_s_LINUX_SLL2⟩ := exa_v hn5
  have S_s_LINUX_SLL2 : Sta s s.heap "com/example/waymark/waymark/cli/LinkType" "LINUX_SLL2" "Lcom/example/waymark/waymark/cli/LinkType;" (.ref s_LINUX_SLL2) := Sta.start ev_s_LINUX_SLL2 (Or.inr ⟨(hw _ (List.mem_of_getElem? (i := 1) rfl)), (hw _ (List.mem_of_getElem? (i := 12) rfl))⟩)
  have E_s_LINUX_SLL2 : Exa s s.heap s_LINUX_SLL2 "com/example/waymark/waymark/cli/LinkType" := Exa.start ev_s_LINUX_SLL2 hn5
  obtain ⟨s_LINUX_SLL, ev_s_LINUX_SLL⟩ := exa_v hn13
  have S_s_LINUX_SLL : Sta s s.heap "com/example/waymark/waymark/cli/LinkType" "LINUX_SLL" "Lcom/example/waymark/waymark/cli/LinkType;" (.ref s_LINUX_SLL) := Sta.start ev_s_LINUX_SLL (Or.inr ⟨(hw _ (List.mem_of_getElem? (i := 1) rfl)), (hw _ (List.mem_of_getElem? (i := 18) rfl))⟩)
  have E_s_LINUX_SLL : Exa s s.heap s_LINUX_SLL "com/example/waymark/waymark/cli/LinkType" := Exa.start ev_s_LINUX_SLL hn13
  obtain ⟨s_RAW, ev_s_RAW⟩ := exa_v hn19
  have S_s_RAW : Sta s s.heap "com/example/waymark/waymark/cli/LinkType" "RAW" "Lcom/example/waymark/waymark/cli/LinkType;" (.ref s_RAW) := Sta.start ev_s_RAW (Or.inr ⟨(hw _ (List.mem_of_getElem? (i := 1) rfl)), (hw _ (List.mem_of_getElem? (i := 20) rfl))⟩)
  have E_s_RAW : Exa s s.heap s_RAW "com/example/waymark/waymark/cli/LinkType" := Exa.start ev_s_RAW hn19
  have F_s_ETHERNET_headerLength : Fld s s.heap s_ETHERNET "com/example/waymark/waymark/cli/LinkType" "headerLength" "I" (.int (14 : Int32)) := own_fi ev_s_ETHERNET hn3
  have F_s_LINUX_SLL2_headerLength : Fld s s.heap s_LINUX_SLL2 "com/example/waymark/waymark/cli/LinkType" "headerLength" "I" (.int (20 : Int32)) := own_fi ev_s_LINUX_SLL2 hn7
  have F_s_ETHERNET_protocolOffset : Fld s s.heap s_ETHERNET "com/example/waymark/waymark/cli/LinkType" "protocolOffset" "I" (.int (12 : Int32)) := own_fi ev_s_ETHERNET hn9
  have F_s_LINUX_SLL2_protocolOffset : Fld s s.heap s_LINUX_SLL2 "com/example/waymark/waymark/cli/LinkType" "protocolOffset" "I" (.int (0 : Int32)) := own_fi ev_s_LINUX_SLL2 hn11
  have F_s_LINUX_SLL_headerLength : Fld s s.heap s_LINUX_SLL "com/example/waymark/waymark/cli/LinkType" "headerLength" "I" (.int (16 : Int32)) := own_fi ev_s_LINUX_SLL hn15
  have F_s_LINUX_SLL_protocolOffset : Fld s s.heap s_LINUX_SLL "com/example/waymark/waymark/cli/LinkType" "protocolOffset" "I" (.int (14 : Int32)) := own_fi ev_s_LINUX_SLL hn17
  have F_s_RAW_headerLength : Fld s s.heap s_RAW "com/example/waymark/waymark/cli/LinkType" "headerLength" "I" (.int (0 : Int32)) := own_fi ev_s_RAW hn21
  have F_s_RAW_protocolOffset : Fld s s.heap s_RAW "com/example/waymark/waymark/cli/LinkType" "protocolOffset" "I" (.int (-1 : Int32)) := own_fi ev_s_RAW hn22
  obtain ⟨n, o, h1, h2, h3, _, L, rfl, ⟨rfl, N⟩, hq⟩ := rm0 l s _ hw tables_1 i0 i1 i2 i3 i4 s_ETHERNET s_LINUX_SLL2 s_LINUX_SLL s_RAW s.heap s.heap.size (Nat.le_refl _) (Old.start s) S_s_ETHERNET E_s_ETHERNET S_s_LINUX_SLL2 E_s_LINUX_SLL2 S_s_LINUX_SLL E_s_LINUX_SLL S_s_RAW E_s_RAW F_s_ETHERNET_headerLength F_s_LINUX_SLL2_headerLength F_s_ETHERNET_protocolOffset F_s_LINUX_SLL2_protocolOffset F_s_LINUX_SLL_headerLength F_s_LINUX_SLL_protocolOffset F_s_RAW_headerLength F_s_RAW_protocolOffset p e ha hc hk s m _ below hf ((Spec.applies_iff_loose hf).mp happ).1 ⟨rfl, State.Warmed39.refl s, rfl⟩ trivial
  refine ⟨n, _, h1, h2, h3, hpost _ _ _ _ _ _ ⟨Cond.after_iff.mpr rfl, Cond.after_iff.mpr (eq_i res_at (Term.int_eval (1)) (congrArg Value.int (own_main i0 i1 i2 i3 i4))), trivial⟩ ⟨hq.1, hq.2.1, (hq.2.2.sift fun y hy => Or.inr (N y hy)).mono (by decide) (by decide)⟩⟩
theorem main_1_1 : Claimed_1_1 := comes_1 fun _ _ _ _ _ _ h hF => ⟨h.1, hF⟩
theorem main_1_2 : Claimed_1_2 := comes_1 fun _ _ _ _ _ _ h hF => ⟨h.2.1, hF⟩
end Jvm.Pilot.@@N@@
namespace Jvm.Pilot.@@N@@
open Jvm Jvm.ClassFile Sem Op Lib Jvm.Free Jvm.Stand Jvm.Pilot.@@N@@.Jvm.D
/-! MADE BY PROGRAM (witnessworld.py) out of the Statement's table words and the real class files: 12 classes; the members and pool entries that the words name. The judged class is class 1, her method 1. -/
namespace start1
open Jvm.ClassFile
def u (s : String) : CpInfo := .utf8 (stringToUtf16 s)
/-- a pool by its gaps: so many unusable entries, then the entry; so many at the end -/
def gap : Nat → List CpInfo → List CpInfo
  | 0, r => r
  | n + 1, r => .unusable :: gap n r
def poolList (es : List (Nat × CpInfo)) (last : Nat) : List CpInfo := es.foldr (fun e r => gap e.1 (e.2 :: r)) (gap last [])
def pool (es : List (Nat × CpInfo)) (last : Nat) : Array CpInfo := ⟨poolList es last⟩
def fileOf (pool : Array CpInfo) (this : Nat) (attrs : Array Attribute := #[]) (ms : Array MethodInfo := #[]) (fl : Nat := 33) (sup : Nat := 0) (ifs : Array Nat := #[]) (fds : Array FieldInfo := #[]) : ClassFile where
  minorVersion := 0
  majorVersion := 65
  constantPool := pool
  accessFlags := fl
  thisClass := this
  superClass := sup
  interfaces := ifs
  fields := fds
  methods := ms
  attributes := attrs
def plain (name : String) (sup : Option ClassId) : Class where
  name := name
  kind := .ordinary
  loader := none
  accessFlags := 33
  super := sup
  interfaces := #[]
  cf := none
  fields := #[]
  methods := #[]
  instanceTypes := #[]
  staticTypes := #[]
  resolved := #[]
  callSites := []
  init := .initialized
  statics := none
  mirror := none

def pool0 : Array CpInfo := pool [(5, u "<init>"), (0, u "()V"), (1, .class_ 10), (1, u "java/lang/Object")] 113

def k0m0 : Method := { name := "<init>", desc := "()V", sig := { parameters := [], returnType := none }, accessFlags := 1, code := none }
/-- java/lang/Object -/
def k0 : Class := { plain "java/lang/Object" none with
  accessFlags := 33
  interfaces := #[]
  cf := some (fileOf pool0 8 #[] #[{ accessFlags := 1, nameIndex := 5, descriptorIndex := 6, attributes := #[] }] 33 0 #[] #[])
  fields := #[]
  methods := #[k0m0]
  instanceTypes := #[]
  staticTypes := #[]
  resolved := Array.replicate 124 none
  statics := none }

def pool1 : Array CpInfo := pool [(2, .class_ 4), (1, u "java/lang/Object"), (0, u "<init>"), (0, u "()V"), (0, .fieldref 8 9), (0, .class_ 10), (0, .nameAndType 11 12), (0, u "com/example/waymark/waymark/cli/LinkType"), (0, u "ETHERNET"), (0, u "Lcom/example/waymark/waymark/cli/LinkType;"), (0, .fieldref 8 14), (0, .nameAndType 15 12), (0, u "RAW"), (0, .fieldref 8 17), (0, .nameAndType 18 12), (0, u "LINUX_SLL"), (0, .fieldref 8 20), (0, .nameAndType 21 12), (0, u "LINUX_SLL2"), (0, .methodref 8 23), (0, .nameAndType 24 25), (0, u "ipVersion"), (0, u "([B)I"), (0, .integer 34525), (0, .class_ 28), (0, u "com/example/waymark/waymark/cli/LinkTypeIpVersionPinLaw"), (2, u "law"), (0, u "(IIIII)Z")] 5

def k1m0 : Method := { name := "<init>", desc := "()V", sig := { parameters := [], returnType := none }, accessFlags := 2, code := none }
def k1c1 : Code := { maxStack := 3, maxLocals := 14, code := code, exceptionTable := #[], attributes := #[] }
def k1m1 : Method := { name := "law", desc := "(IIIII)Z", sig := { parameters := [.int, .int, .int, .int, .int], returnType := some .boolean }, accessFlags := 9, code := some k1c1 }
/-- com/example/waymark/waymark/cli/LinkTypeIpVersionPinLaw -/
def k1 : Class := { plain "com/example/waymark/waymark/cli/LinkTypeIpVersionPinLaw" (some 0) with
  accessFlags := 49
  interfaces := #[]
  cf := some (fileOf pool1 27 #[] #[{ accessFlags := 2, nameIndex := 5, descriptorIndex := 6, attributes := #[] }, { accessFlags := 9, nameIndex := 31, descriptorIndex := 32, attributes := #[] }] 49 2 #[] #[])
  fields := #[]
  methods := #[k1m0, k1m1]
  instanceTypes := #[]
  staticTypes := #[]
  resolved := Array.replicate 38 none
  statics := none }

def pool2 : Array CpInfo := pool [(1, .class_ 2), (0, u "java/lang/constant/Constable"), (0, .class_ 4), (0, u "java/lang/Object")] 6

/-- java/lang/constant/Constable -/
def k2 : Class := { plain "java/lang/constant/Constable" (some 0) with
  accessFlags := 1537
  interfaces := #[]
  cf := some (fileOf pool2 1 #[] #[] 1537 3 #[] #[])
  fields := #[]
  methods := #[]
  instanceTypes := #[]
  staticTypes := #[]
  resolved := Array.replicate 11 none
  statics := none }

def pool3 : Array CpInfo := pool [(1, .class_ 2), (0, u "java/lang/Comparable"), (0, .class_ 4), (0, u "java/lang/Object")] 7

/-- java/lang/Comparable -/
def k3 : Class := { plain "java/lang/Comparable" (some 0) with
  accessFlags := 1537
  interfaces := #[]
  cf := some (fileOf pool3 1 #[] #[] 1537 3 #[] #[])
  fields := #[]
  methods := #[]
  instanceTypes := #[]
  staticTypes := #[]
  resolved := Array.replicate 12 none
  statics := none }

def pool4 : Array CpInfo := pool [(1, .class_ 2), (0, u "java/io/Serializable"), (0, .class_ 4), (0, u "java/lang/Object")] 2

/-- java/io/Serializable -/
def k4 : Class := { plain "java/io/Serializable" (some 0) with
  accessFlags := 1537
  interfaces := #[]
  cf := some (fileOf pool4 1 #[] #[] 1537 3 #[] #[])
  fields := #[]
  methods := #[]
  instanceTypes := #[]
  staticTypes := #[]
  resolved := Array.replicate 7 none
  statics := none }

def pool5 : Array CpInfo := pool [(2, .class_ 4), (1, u "java/lang/Enum"), (0, u "name"), (0, u "Ljava/lang/String;"), (2, u "ordinal"), (0, u "I"), (1, .class_ 14), (1, u "java/lang/Object"), (4, u "hash"), (86, .class_ 108), (1, u "java/lang/Enum$EnumDesc"), (2, .class_ 112), (0, u "java/lang/constant/Constable"), (0, .class_ 114), (0, u "java/lang/Comparable"), (0, .class_ 116), (0, u "java/io/Serializable")] 87

/-- java/lang/Enum -/
def k5 : Class := { plain "java/lang/Enum" (some 0) with
  accessFlags := 1057
  interfaces := #[2, 3, 4]
  cf := some (fileOf pool5 2 #[.nestMembers #[106]] #[] 1057 12 #[111, 113, 115] #[{ accessFlags := 18, nameIndex := 5, descriptorIndex := 6, attributes := #[] }, { accessFlags := 18, nameIndex := 9, descriptorIndex := 10, attributes := #[] }, { accessFlags := 2, nameIndex := 19, descriptorIndex := 10, attributes := #[] }])
  fields := #[{ name := "name", type := (.object "java/lang/String"), accessFlags := 18, slot := 0, constantValue := 0 }, { name := "ordinal", type := .int, accessFlags := 18, slot := 1, constantValue := 0 }, { name := "hash", type := .int, accessFlags := 2, slot := 2, constantValue := 0 }]
  methods := #[]
  instanceTypes := #[(.object "java/lang/String"), .int, .int]
  staticTypes := #[]
  resolved := Array.replicate 204 none
  statics := none }

def pool6 : Array CpInfo := pool [(1, .class_ 2), (0, u "com/example/waymark/waymark/cli/LinkType"), (2, u "ETHERNET"), (0, u "Lcom/example/waymark/waymark/cli/LinkType;"), (2, u "RAW"), (2, u "LINUX_SLL"), (2, u "LINUX_SLL2"), (2, u "$VALUES"), (0, u "[Lcom/example/waymark/waymark/cli/LinkType;"), (6, .class_ 28), (1, u "java/lang/Enum"), (8, u "code"), (0, u "I"), (0, .fieldref 1 40), (0, .nameAndType 41 38), (0, u "headerLength"), (0, .fieldref 1 43), (0, .nameAndType 44 38), (0, u "protocolOffset"), (42, .integer 34525), (10, u "ETHERTYPE_IPV4"), (2, u "ETHERTYPE_IPV6"), (13, u "ipVersion"), (0, u "([B)I")] 4

def k6c0 : Code := { maxStack := 4, maxLocals := 3, code := prog_43_method_9_code, exceptionTable := #[], attributes := #[] }
def k6m0 : Method := { name := "ipVersion", desc := "([B)I", sig := { parameters := [(.array .byte)], returnType := some .int }, accessFlags := 0, code := some k6c0 }
/-- com/example/waymark/waymark/cli/LinkType -/
def k6 : Class := { plain "com/example/waymark/waymark/cli/LinkType" (some 5) with
  accessFlags := 16432
  interfaces := #[]
  cf := some (fileOf pool6 1 #[] #[{ accessFlags := 0, nameIndex := 115, descriptorIndex := 116, attributes := #[] }] 16432 26 #[] #[{ accessFlags := 16409, nameIndex := 5, descriptorIndex := 6, attributes := #[] }, { accessFlags := 16409, nameIndex := 9, descriptorIndex := 6, attributes := #[] }, { accessFlags := 16409, nameIndex := 12, descriptorIndex := 6, attributes := #[] }, { accessFlags := 16409, nameIndex := 15, descriptorIndex := 6, attributes := #[] }, { accessFlags := 26, nameIndex := 98, descriptorIndex := 38, attributes := #[] }, { accessFlags := 26, nameIndex := 101, descriptorIndex := 38, attributes := #[] }, { accessFlags := 18, nameIndex := 37, descriptorIndex := 38, attributes := #[] }, { accessFlags := 18, nameIndex := 41, descriptorIndex := 38, attributes := #[] }, { accessFlags := 18, nameIndex := 44, descriptorIndex := 38, attributes := #[] }, { accessFlags := 4122, nameIndex := 18, descriptorIndex := 19, attributes := #[] }])
  fields := #[{ name := "ETHERNET", type := (.object "com/example/waymark/waymark/cli/LinkType"), accessFlags := 16409, slot := 0, constantValue := 0 }, { name := "RAW", type := (.object "com/example/waymark/waymark/cli/LinkType"), accessFlags := 16409, slot := 1, constantValue := 0 }, { name := "LINUX_SLL", type := (.object "com/example/waymark/waymark/cli/LinkType"), accessFlags := 16409, slot := 2, constantValue := 0 }, { name := "LINUX_SLL2", type := (.object "com/example/waymark/waymark/cli/LinkType"), accessFlags := 16409, slot := 3, constantValue := 0 }, { name := "ETHERTYPE_IPV4", type := .int, accessFlags := 26, slot := 4, constantValue := 0 }, { name := "ETHERTYPE_IPV6", type := .int, accessFlags := 26, slot := 5, constantValue := 0 }, { name := "code", type := .int, accessFlags := 18, slot := 3, constantValue := 0 }, { name := "headerLength", type := .int, accessFlags := 18, slot := 4, constantValue := 0 }, { name := "protocolOffset", type := .int, accessFlags := 18, slot := 5, constantValue := 0 }, { name := "$VALUES", type := (.array (.object "com/example/waymark/waymark/cli/LinkType")), accessFlags := 4122, slot := 6, constantValue := 0 }]
  methods := #[k6m0]
  instanceTypes := #[(.object "java/lang/String"), .int, .int, .int, .int, .int]
  staticTypes := #[(.object "com/example/waymark/waymark/cli/LinkType"), (.object "com/example/waymark/waymark/cli/LinkType"), (.object "com/example/waymark/waymark/cli/LinkType"), (.object "com/example/waymark/waymark/cli/LinkType"), .int, .int, (.array (.object "com/example/waymark/waymark/cli/LinkType"))]
  resolved := Array.replicate 121 none
  statics := some 0 }

def pool7 : Array CpInfo := pool [(1, u "java/lang/Cloneable"), (0, .class_ 1), (0, u "java/lang/Object"), (0, .class_ 3)] 3

/-- java/lang/Cloneable -/
def k7 : Class := { plain "java/lang/Cloneable" (some 0) with
  accessFlags := 1537
  interfaces := #[]
  cf := some (fileOf pool7 2 #[] #[] 1537 4 #[] #[])
  fields := #[]
  methods := #[]
  instanceTypes := #[]
  staticTypes := #[]
  resolved := Array.replicate 8 none
  statics := none }

/-- the primitive byte -/
def k8 : Class := { plain "byte" none with kind := .primitive 'B', accessFlags := 0x411 }
/-- [B -/
def k9 : Class := { plain "[B" (some 0) with kind := .array 8 .byte, interfaces := #[7, 4], accessFlags := 1041 }

/-- the primitive int -/
def k10 : Class := { plain "int" none with kind := .primitive 'I', accessFlags := 0x411 }
/-- [I -/
def k11 : Class := { plain "[I" (some 0) with kind := .array 10 .int, interfaces := #[7, 4], accessFlags := 1041 }

def heap : Heap := #[{ cls := 6, slots := #[.ref 1, .ref 2, .ref 3, .ref 4, .int 0, .int 0, .null], vm := .statics 6 },
  { cls := 6, slots := #[.null, .int 0, .int 0, .int 0, .int 14, .int 12], vm := .none },
  { cls := 6, slots := #[.null, .int 0, .int 0, .int 0, .int 0, .int (-1)], vm := .none },
  { cls := 6, slots := #[.null, .int 0, .int 0, .int 0, .int 16, .int 14], vm := .none },
  { cls := 6, slots := #[.null, .int 0, .int 0, .int 0, .int 20, .int 0], vm := .none }]
def classes : Array Class := #[k0, k1, k2, k3, k4, k5, k6, k7, k8, k9, k10, k11]
def interned : List (Array UInt16 × Addr) := []
def slotsUsed : Nat := 31
def theMethod : MethodId := ⟨1, 1⟩
def args0 : Array Value := #[.int 5, .int 6, .int 7, .int 8, .int 9]
def aboutOver (below : List Frame) : State where
  vm := { classes := classes, interned := interned.toArray }
  heap := heap
  slotsUsed := slotsUsed
  threads := #[{ frames := .invoking theMethod args0 :: below }]
def below0 : List Frame := [.native { method := ⟨0, 0⟩, args := #[] }]
def about1 : State := aboutOver below0
def p0 : Program := .bare "" "" ""
def e0 : Env := launch0.env 0 0 0
theorem w_frames : about1.frames = Frame.invoking theMethod args0 :: below0 := rfl
set_option maxRecDepth 65536 in
theorem w_args : argsFit about1.vm theMethod args0 = true := by decide +kernel
set_option maxRecDepth 65536 in
theorem w_heap : heapFits about1 = true := by decide +kernel
set_option maxRecDepth 65536 in
theorem w_runnable : about1.curStatus? = some .runnable := by decide +kernel
set_option maxRecDepth 65536 in
theorem w_alone : about1.alone = true := by decide +kernel
set_option maxRecDepth 65536 in
theorem w_named : about1.methodNamed? x = some theMethod := by decide +kernel
set_option maxRecDepth 65536 in
theorem w_hears : about1.hears theMethod below0 = true := by decide +kernel
set_option maxRecDepth 65536 in
theorem w_ripe : about1.ripe theMethod args0 below0 = true := by decide +kernel
theorem w_running : about1.status = .running := rfl
set_option maxRecDepth 65536 in
theorem w_room : about1.hasRoom e0.platform room_1 = true :=
  launch0.hasRoom_least _ room_1 (by decide +kernel) (by decide +kernel) (by decide +kernel) (by decide +kernel) (by decide +kernel) (by decide +kernel)
theorem allAtoms_all (ts : List Jvm.Cond) (a : Array Jvm.Value) (st : Jvm.State) : (allAtoms ts).before a st = ts.all (fun c => c.before a st) := by
  induction ts with
  | nil => rfl
  | cons c t ih =>
    show (Jvm.Cond.and c (allAtoms t)).before a st = _
    rw [Jvm.Cond.before_and, ih, List.all_cons]
def words1 : List Jvm.Cond := Jvm.Cond.code x code maxLocals ret :: tables_1
/-- a 'code' word, met by the world's own term for the bytes: nothing is compared byte by byte -/
theorem code_word {y : MethodName} {bytes : ByteArray} {mx : Nat} {rt : Option FieldType} {a : Array Value} {s : State} {m : MethodId} {meth : Method} {c : Code} (h1 : s.methodNamed? y = some m) (h2 : s.vm.method? m = some meth) (h3 : meth.code = some c) (h4 : c.code = bytes)
    (h5 : (c.maxLocals == mx && c.exceptionTable.isEmpty && decide (c.maxStack ≤ mostOperands) && decide (meth.sig.returnType = rt) && !meth.locks && decide (parseMethodDescriptor y.desc = some meth.sig)) = true) : (Jvm.Cond.code y bytes mx rt).before a s = true := by
  simp only [Bool.and_eq_true, beq_iff_eq, Bool.not_eq_true', decide_eq_true_eq] at h5
  obtain ⟨⟨⟨⟨⟨g1, g2⟩, g3⟩, g4⟩, g5⟩, g6⟩ := h5
  simp [Cond.before, Cond.holds, Cond.value, h1, h2, h3, h4, g1, g2, g3, g4, g5, g6]
def isCode : Jvm.Cond → Bool
  | .code _ _ _ _ => true
  | _ => false
theorem all_split {L : List Jvm.Cond} {P : Jvm.Cond → Bool} (h1 : L.all (fun c => isCode c || P c) = true) (h2 : ∀ c ∈ L.filter isCode, P c = true) : L.all P = true := by
  refine List.all_eq_true.mpr fun c hc => ?_
  have h := List.all_eq_true.mp h1 c hc
  rcases Bool.eq_false_or_eq_true (isCode c) with hi | hi
  · exact h2 c (List.mem_filter.mpr ⟨hc, hi⟩)
  · simpa [hi] using h
set_option maxRecDepth 65536 in
theorem w_c0 : (Jvm.Cond.code x code maxLocals ret).before args0 about1 = true := code_word (m := ⟨1, 1⟩) (meth := k1m1) (c := k1c1) (by decide +kernel) rfl rfl rfl (by decide +kernel)
set_option maxRecDepth 65536 in
theorem w_c1 : (Jvm.Cond.code ({ cls := "com/example/waymark/waymark/cli/LinkType", name := "ipVersion", desc := "([B)I" } : Jvm.MethodName) prog_43_method_9_code (3 : Nat) (Option.some Jvm.ClassFile.FieldType.int)).before args0 about1 = true := code_word (m := ⟨6, 0⟩) (meth := k6m0) (c := k6c0) (by decide +kernel) rfl rfl rfl (by decide +kernel)
def codes1 : List Jvm.Cond := [Jvm.Cond.code x code maxLocals ret, Jvm.Cond.code ({ cls := "com/example/waymark/waymark/cli/LinkType", name := "ipVersion", desc := "([B)I" } : Jvm.MethodName) prog_43_method_9_code (3 : Nat) (Option.some Jvm.ClassFile.FieldType.int)]
set_option maxRecDepth 65536 in
theorem codes_eq : words1.filter isCode = codes1 := rfl
theorem w_codes : ∀ c ∈ words1.filter isCode, c.before args0 about1 = true := by
  rw [codes_eq]
  intro c hc
  simp only [codes1, List.mem_cons, List.not_mem_nil, or_false] at hc
  rcases hc with rfl | rfl
  · exact w_c0
  · exact w_c1
set_option maxRecDepth 65536 in
theorem w_t1 : words1.all (fun c => isCode c || c.before args0 about1) = true := by decide +kernel
theorem w_tables : (allAtoms (Jvm.Cond.code x code maxLocals ret :: tables_1)).before args0 about1 = true := by
  rw [allAtoms_all]
  show words1.all (fun c => c.before args0 about1) = true
  refine all_split ?_ w_codes
  rw [w_t1]
set_option maxRecDepth 65536 in
theorem w_case : (Jvm.Cond.and given_1 narrow_1).before args0 about1 = true := by decide +kernel
theorem w_applies : (headSpec (Jvm.Cond.code x code maxLocals ret :: tables_1) room_1).applies x e0.platform about1 = true :=
  (Spec.applies_iff w_frames).mpr ⟨w_running, w_runnable, w_alone, w_named, w_hears, w_ripe, w_room, w_tables⟩
theorem atStart : AtStart classFile x code maxLocals ret World_1 tables_1 room_1 Calls_1 rest_1 Pre_1 launch0 p0 e0 about1 theMethod args0 below0 :=
  ⟨lists_1, trivial, launch0.admits_env _ _ _, launch0.least_env, fairChoices_fair.cas, fairChoices_fair.clock, w_frames, w_args, w_heap, w_applies, trivial, trivial, w_case⟩
end start1
theorem witness_1 : WitnessClaimed_1 := ⟨start1.p0, start1.e0, start1.about1, start1.theMethod, start1.args0, start1.below0, start1.atStart⟩
end Jvm.Pilot.@@N@@

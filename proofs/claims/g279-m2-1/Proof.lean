import JvmDerived
import JvmDerived.Pilot.@@N@@Statement
import JvmDerived.Pilot.@@N@@Code
set_option linter.unusedVariables false
set_option linter.unusedSimpArgs false
@@BLOCK:NumsL.lean.txt@@
namespace Jvm.RoadKit
open Sem ClassFile Op Lib Jvm.Stand Jvm.Free Jvm.LawKit
section New
variable {p : Program} {l : Launch} {e : Env} {R : Room} {s : State} {m : MethodId} {args : Array Value} {below : List Frame} {meth : Method} {c : Code} {T : State} {locs : List Loc} {cells slots : Nat}
theorem retI (X : Stand p l e R s m args below meth c T locs cells slots) (hx : p.tables.exec = Jvm.exec) {pc : Nat} {Ls : Array Slot} {z : Int32} {rest : List Value} (hret : meth.sig.returnType = some .int) (hd : decode c.code pc = .ok (.ireturn, 1)) {fs : List Frame}
    (hl : ∀ (f : JFrame) (acts : List Action), f.method = m → f.locked = none → f.entered = [] → (doReturn e (T.setTop f) acts (some (.int z))).1 = T.setFrames fs) : Steps p.tables e below (T.setTop (mkF m pc Ls (.int z :: rest))) (T.setFrames fs) := by
  have hm' : T.vm.method? m = some meth := X.method'
  have hn : narrow .int (.int z) = .int z := rfl
  show Steps p.tables e below (T.setTop { method := m, pc := pc, locals := Ls, stack := _ :: rest, locked := none }) _
  jvm_step X.here [X.here.top, hx, hd, hm', hret, hn]
  first | (intro acts; rw [hl _ acts rfl rfl rfl]) | rw [hl _ _ rfl rfl rfl]
  exact Steps.refl _
end New
end Jvm.RoadKit
namespace Jvm.Pilot.@@N@@
open Jvm Jvm.ClassFile Sem Op Lib Jvm.Free Jvm.Stand Jvm.LawKit Jvm.RoadKit Bundle Jvm.Pilot.@@N@@.Jvm.D


/-! arrays: what an array holds, as a list of values (AV) or as a function of the place (AI) -/
def AV (Z : State) (h : Heap) (a : Addr) (ty : FieldType) (z : Int32) (vs : List Value) : Prop := ∃ c : Cell, Arr Z h a c ty ∧ c.slots = vs.toArray ∧ vs.length = z.toNatClampNeg ∧ ¬ z < 0
def AI (Z : State) (h : Heap) (a : Addr) (ty : FieldType) (z : Int32) (f : Nat → Int32) : Prop := ∃ c : Cell, Arr Z h a c ty ∧ c.slots.size = z.toNatClampNeg ∧ ¬ z < 0 ∧ ∀ i, i < z.toNatClampNeg → c.slots[i]? = some (.int (f i))
section Arrays
variable {Z : State} {h h' : Heap} {a b : Addr} {ty : FieldType} {z j : Int32} {vs : List Value} {f : Nat → Int32} {sl : Nat} {v : Value} {ws : List Addr} {k : ClassId}
theorem AV.lt (F : AV Z h a ty z vs) : a < h.size := by obtain ⟨c, A, -⟩ := F; exact A.lt
theorem AI.lt (F : AI Z h a ty z f) : a < h.size := by obtain ⟨c, A, -⟩ := F; exact A.lt
theorem AV.ext (F : AV Z h a ty z vs) (E : Ext h h') : AV Z h' a ty z vs := by obtain ⟨c, A, r⟩ := F; exact ⟨c, Arr.ext E A, r⟩
theorem AI.ext (F : AI Z h a ty z f) (E : Ext h h') : AI Z h' a ty z f := by obtain ⟨c, A, r⟩ := F; exact ⟨c, Arr.ext E A, r⟩
theorem AV.other (F : AV Z h b ty z vs) (W : Wr h h' a sl v) (q : b ≠ a) : AV Z h' b ty z vs := by obtain ⟨c, A, r⟩ := F; exact ⟨c, Arr.other W A q, r⟩
theorem AI.other (F : AI Z h b ty z f) (W : Wr h h' a sl v) (q : b ≠ a) : AI Z h' b ty z f := by obtain ⟨c, A, r⟩ := F; exact ⟨c, Arr.other W A q, r⟩
theorem AV.keep (F : AV Z h a ty z vs) (K : Keep h h' ws) (q : a ∉ ws) : AV Z h' a ty z vs := by obtain ⟨c, A, r⟩ := F; exact ⟨c, ⟨K.2.1 _ _ A.1 q, A.2⟩, r⟩
theorem AI.keep (F : AI Z h a ty z f) (K : Keep h h' ws) (q : a ∉ ws) : AI Z h' a ty z f := by obtain ⟨c, A, r⟩ := F; exact ⟨c, ⟨K.2.1 _ _ A.1 q, A.2⟩, r⟩
theorem AV.new (A : Arr Z h a (newA k ty z) ty) (q : ¬ z < 0) : AV Z h a ty z (List.replicate z.toNatClampNeg (defaultValue ty)) := ⟨_, A, by simp [newA], by simp, q⟩
theorem AI.new {d : Int32} (A : Arr Z h a (newA k ty z) ty) (q : ¬ z < 0) (hd : defaultValue ty = .int d) : AI Z h a ty z (fun _ => d) := ⟨_, A, sz_new k ty z, q, fun i hi => by simp [newA, hi, hd]⟩
theorem AV.set {c : Cell} (A : Arr Z h a c ty) (S : c.slots = vs.toArray) (N : vs.length = z.toNatClampNeg) (q : ¬ z < 0) (W : Wr h h' a sl v) : AV Z h' a ty z (vs.set sl v) := by
  refine ⟨_, Arr.same W A, ?_, by simpa using N, q⟩
  simp [Cell.setSlot, S]
theorem AI.set {c : Cell} {x : Int32} (A : Arr Z h a c ty) (S : c.slots.size = z.toNatClampNeg) (q : ¬ z < 0) (G : ∀ i, i < z.toNatClampNeg → c.slots[i]? = some (.int (f i))) (W : Wr h h' a sl (.int x)) : AI Z h' a ty z (fun i => if i = sl then x else f i) := by
  obtain ⟨c', e1, -, -, e4, -, e6, e7⟩ := wr_at W A.1
  have A' := Arr.same W A
  obtain rfl : c' = c.setSlot sl (.int x) := (e7 rfl).1
  refine ⟨_, A', by rw [e4]; exact S, q, fun i hi => ?_⟩
  by_cases hc : i = sl
  · subst hc; simp only [if_pos]; exact (e7 rfl).2.1
  · simp only [if_neg hc]; rw [e6 i hc]; exact G i hi
theorem AI.congr {g : Nat → Int32} (F : AI Z h a ty z f) (q : ∀ i, i < z.toNatClampNeg → f i = g i) : AI Z h a ty z g := by
  obtain ⟨c, A, S, N, G⟩ := F
  exact ⟨c, A, S, N, fun i hi => by rw [← q i hi]; exact G i hi⟩
theorem AV.inb {c : Cell} (S : c.slots = vs.toArray) (N : vs.length = z.toNatClampNeg) (q : ¬ j < 0 ∧ j < z) : ¬ (j < 0 ∨ c.slots.size ≤ j.toNatClampNeg) := inb_of (by rw [S]; simpa using N) q
theorem AV.len {c : Cell} (S : c.slots = vs.toArray) (N : vs.length = z.toNatClampNeg) (q : ¬ z < 0) : c.slots.size.toInt32 = z := len_of (by rw [S]; simpa using N) q
theorem AV.at {c : Cell} (S : c.slots = vs.toArray) (hj : vs[j.toNatClampNeg]? = some v) : c.slots[j.toNatClampNeg]? = some v := by rw [S]; simpa using hj
theorem AI.at {c : Cell} (S : c.slots.size = z.toNatClampNeg) (G : ∀ i, i < z.toNatClampNeg → c.slots[i]? = some (.int (f i))) (q : ¬ (j < 0 ∨ c.slots.size ≤ j.toNatClampNeg)) : c.slots[j.toNatClampNeg]? = some (.int (f j.toNatClampNeg)) := G _ (by rw [← S]; exact Nat.lt_of_not_le fun x => q (Or.inr x))
def own_sl (x : Slot) : Prop := x = .unset ∨ (∃ i, x = .val (.int i)) ∨ ∃ a, x = .val (.ref a)
theorem own_loop {G : Prop} {α : Type} (P : α → Prop) (m : α → Nat) (hs : ∀ a, P a → (∀ b, P b → m b < m a → G) → G) (a : α) (ha : P a) : G := by
  suffices h : ∀ n a, m a = n → P a → G from h _ a rfl ha
  intro n
  induction n using Nat.strongRecOn with
  | ind n ih => intro a hn hp; exact hs a hp fun b hb hlt => ih (m b) (by rw [← hn]; exact hlt) b rfl hb
theorem own_selp {s : State} {args : Array Value} {y y0 : MethodName} (h0 : (Cond.selects y.cls y0 y0).before args s = true) (hcls : y0.cls = y.cls) (hpriv : s.PrivateAt y) (hinst : (Cond.instanceMethod y).before args s = true) (hy : y.cls ≠ "java/lang/invoke/MethodHandle" ∧ y.cls ≠ "java/lang/invoke/VarHandle") : (Cond.selects y.cls y y).before args s = true := by
  obtain ⟨c2, r2, m2, -, -, q3, -, kP, hkP, hkPi⟩ := Cond.selects_spec h0
  have hf := findClass_of_methodNamed q3
  rw [hcls] at hf
  exact selects_self_of_private hf hkP hkPi hpriv hinst hy
def AK (h : Heap) (a : Addr) (k : ClassId) : Prop := ∃ c : Cell, h[a]? = some c ∧ c.cls = k
theorem AK.ext (F : AK h a k) (E : Ext h h') : AK h' a k := by obtain ⟨c, h1, h2⟩ := F; exact ⟨c, E.2 _ _ h1, h2⟩
theorem AK.wr (F : AK h b k) (W : Wr h h' a sl v) : AK h' b k := by obtain ⟨c, h1, h2⟩ := F; obtain ⟨c', e1, e2, -⟩ := wr_at W h1; exact ⟨c', e1, e2.trans h2⟩
theorem AK.keep (F : AK h a k) (K : Keep h h' ws) : AK h' a k := by obtain ⟨c, h1, h2⟩ := F; obtain ⟨c', e1, e2, -⟩ := K.2.2 _ _ h1; exact ⟨c', e1, e2.trans h2⟩
theorem AK.cls {c : Cell} (F : AK h a k) (A : Arr Z h a c ty) : c.cls = k := by obtain ⟨c', h1, h2⟩ := F; cases h1.symm.trans A.1; exact h2
theorem AV.arv (F : AV Z h a ty z vs) (d : Value) (hf : ∀ v ∈ vs, fits ty v = true) : ∃ k, Arv Z h a k ty z vs d := by
  obtain ⟨c, A, S, N, q⟩ := F
  refine ⟨_, c, A, rfl, by rw [S]; simpa using N, q, fun i hi => ?_, fun i hi => ?_⟩
  · rw [S] at hi ⊢
    have hi' : i < vs.length := by simpa using hi
    simp [hi']
  · rw [S] at hi
    have hi' : i < vs.length := by simpa using hi
    have e : vs.getD i d = vs[i] := by simp [hi']
    rw [e]; exact hf _ (List.getElem_mem hi')
theorem AV.of_arv {d : Value} (F : Arv Z h a k ty z vs d) (N : vs.length = z.toNatClampNeg) : AV Z h a ty z vs := by
  obtain ⟨c, A, -, S, q, H, -⟩ := F
  refine ⟨c, A, ?_, N, q⟩
  apply Array.ext_getElem?
  intro i
  by_cases hi : i < c.slots.size
  · have hi' : i < vs.length := by rw [N, ← S]; exact hi
    rw [H i hi]; simp [hi']
  · have hi' : ¬ i < vs.length := by rw [N, ← S]; exact hi
    simp [Array.getElem?_eq_none (Nat.le_of_not_lt hi), List.getElem?_eq_none (Nat.le_of_not_lt hi')]
end Arrays


def own_inv (z : Int32) (f1 f2 f3 f4 : Nat → Int32) : Prop := ∃ r : Nat → Int,
  (∀ i, i < 3 → f4 i = -1 ∨ (0 ≤ (f4 i).toInt ∧ (f4 i).toInt < z.toInt)) ∧
  (∀ k : Nat, (k : Int) < z.toInt → f1 k = -1 ∨ ∃ n, n < 3 ∧ f1 k = Int32.ofNat n ∧ f4 n = Int32.ofNat k ∧ f3 n = -1) ∧
  (∀ i, i < 3 → f4 i ≠ -1 → f2 i = -1 ∨ ∃ n, n < 3 ∧ f2 i = Int32.ofNat n ∧ f4 n = f4 i ∧ f3 n = Int32.ofNat i ∧ r i < r n) ∧
  (∀ i, i < 3 → f4 i ≠ -1 → (f3 i = -1 ∧ f1 (f4 i).toNatClampNeg = Int32.ofNat i) ∨ ∃ n, n < 3 ∧ f3 i = Int32.ofNat n ∧ f4 n = f4 i ∧ f2 n = Int32.ofNat i ∧ r n < r i)
theorem own_ofN {n : Nat} (h : n < 2147483648) : (Int32.ofNat n).toInt = n := Int32.toInt_ofNat_of_lt h
theorem own_inj {a b : Nat} (ha : a < 2147483648) (hb : b < 2147483648) (h : Int32.ofNat a = Int32.ofNat b) : a = b := by
  have e := congrArg Int32.toInt h
  rw [own_ofN ha, own_ofN hb] at e
  omega
theorem own_nm1 {n : Nat} (h : n < 2147483648) : Int32.ofNat n ≠ -1 := by
  intro e
  have e' := congrArg Int32.toInt e
  rw [own_ofN h] at e'
  have : (-1 : Int32).toInt = -1 := rfl
  omega
theorem own_nat {n : Nat} (h : n < 2147483648) : (Int32.ofNat n).toNatClampNeg = n := by
  show (Int32.ofNat n).toInt.toNat = n
  rw [own_ofN h]; omega
theorem own_bk {x : Int32} (h : 0 ≤ x.toInt) : Int32.ofNat x.toInt.toNat = x := by
  apply Int32.toInt_inj.mp
  have := Int32.toInt_lt x
  rw [own_ofN (by omega)]; omega
theorem own_bk2 {x : Int32} (h : 0 ≤ x.toInt) : Int32.ofNat x.toNatClampNeg = x := own_bk h
theorem own_inv0 (z : Int32) (f2 f3 : Nat → Int32) : own_inv z (fun _ => -1) f2 f3 (fun _ => -1) :=
  ⟨fun _ => 0, fun i _ => Or.inl rfl, fun k _ => Or.inl rfl, fun i _ h => absurd rfl h, fun i _ h => absurd rfl h⟩
theorem own_range {x : Int32} (h : ¬ x < 0 ∧ x < 3) : x.toNatClampNeg < 3 ∧ x = Int32.ofNat x.toNatClampNeg := by
  have h1 : 0 ≤ x.toInt := Int.not_lt.mp fun q => h.1 (Int32.lt_iff_toInt_lt.mpr q)
  have h2 : x.toInt < 3 := Int32.lt_iff_toInt_lt.mp h.2
  refine ⟨by show x.toInt.toNat < 3; omega, (own_bk h1).symm⟩
theorem own_in3 {n : Nat} (h : n < 3) : ¬ Int32.ofNat n < 0 ∧ Int32.ofNat n < 3 := by
  rw [Int32.lt_iff_toInt_lt, Int32.lt_iff_toInt_lt, own_ofN (by omega)]
  show ¬ _ < (0 : Int) ∧ _ < (3 : Int)
  omega
theorem own_aft {z : Int32} {f1 f2 f3 f4 : Nat → Int32} (I : own_inv z f1 f2 f3 f4) {i : Nat} (hi : i < 3) (hw : f4 i ≠ -1) (h : ¬ f2 i = -1) : ¬ f2 i < 0 ∧ f2 i < 3 := by
  obtain ⟨r, A, B, C, D⟩ := I
  obtain ⟨n, hn, e, -⟩ := (C i hi hw).resolve_left h
  rw [e]; exact own_in3 hn
theorem own_bef {z : Int32} {f1 f2 f3 f4 : Nat → Int32} (I : own_inv z f1 f2 f3 f4) {i : Nat} (hi : i < 3) (hw : f4 i ≠ -1) (h : ¬ f3 i = -1) : ¬ f3 i < 0 ∧ f3 i < 3 := by
  obtain ⟨r, A, B, C, D⟩ := I
  obtain ⟨n, hn, e, -⟩ := (D i hi hw).resolve_left (fun q => h q.1)
  rw [e]; exact own_in3 hn
theorem own_hd {z : Int32} {f1 f2 f3 f4 : Nat → Int32} (I : own_inv z f1 f2 f3 f4) {k : Int32} (h0 : 0 ≤ k.toInt) (hk : k.toInt < z.toInt) (h : ¬ f1 k.toNatClampNeg = -1) : (¬ f1 k.toNatClampNeg < 0 ∧ f1 k.toNatClampNeg < 3) ∧ f4 (f1 k.toNatClampNeg).toNatClampNeg = k := by
  obtain ⟨r, A, B, C, D⟩ := I
  obtain ⟨n, hn, e, e2, -⟩ := (B k.toNatClampNeg (by show ((k.toInt.toNat : Nat) : Int) < _; omega)).resolve_left h
  rw [e, own_nat (by omega)]
  exact ⟨own_in3 hn, by rw [e2, own_bk2 h0]⟩
theorem own_inr {z : Int32} {f1 f2 f3 f4 : Nat → Int32} (I : own_inv z f1 f2 f3 f4) {i : Nat} (hi : i < 3) (hw : f4 i ≠ -1) : 0 ≤ (f4 i).toInt ∧ (f4 i).toInt < z.toInt := by
  obtain ⟨r, A, -⟩ := I
  exact (A i hi).resolve_left hw
/-- the node with the least rank among those that wait under a key -/
theorem own_least (P : Nat → Prop) [DecidablePred P] (r : Nat → Int) (i : Nat) (hi : i < 3) (h : P i) : ∃ n, n < 3 ∧ P n ∧ ∀ j, j < 3 → P j → r n ≤ r j := by
  have key : ∀ m : Nat, ∀ n, n < 3 → P n → (r n - (min (r 0) (min (r 1) (r 2)))).toNat ≤ m → ∃ n, n < 3 ∧ P n ∧ ∀ j, j < 3 → P j → r n ≤ r j := by
    intro m
    induction m with
    | zero =>
      intro n hn hp hm
      refine ⟨n, hn, hp, fun j hj _ => ?_⟩
      have : r j = r 0 ∨ r j = r 1 ∨ r j = r 2 := by
        match j, hj with
        | 0, _ => exact Or.inl rfl
        | 1, _ => exact Or.inr (Or.inl rfl)
        | 2, _ => exact Or.inr (Or.inr rfl)
      omega
    | succ m ih =>
      intro n hn hp hm
      by_cases hq : ∃ j, j < 3 ∧ P j ∧ r j < r n
      · obtain ⟨j, hj, pj, hlt⟩ := hq
        have : r j = r 0 ∨ r j = r 1 ∨ r j = r 2 := by
          match j, hj with
          | 0, _ => exact Or.inl rfl
          | 1, _ => exact Or.inr (Or.inl rfl)
          | 2, _ => exact Or.inr (Or.inr rfl)
        exact ih j hj pj (by omega)
      · exact ⟨n, hn, hp, fun j hj pj => Int.not_lt.mp fun hlt => hq ⟨j, hj, pj, hlt⟩⟩
  exact key _ i hi h (Nat.le_refl _)
theorem own_some {z : Int32} {f1 f2 f3 f4 : Nat → Int32} (I : own_inv z f1 f2 f3 f4) {i : Nat} (hi : i < 3) (hw : f4 i ≠ -1) : ¬ f1 (f4 i).toNatClampNeg = -1 := by
  obtain ⟨r, A, B, C, D⟩ := I
  obtain ⟨n, hn, pn, hmin⟩ := own_least (fun j => f4 j = f4 i) r i hi rfl
  have hwn : f4 n ≠ -1 := fun h => hw (pn.symm.trans h)
  rcases D n hn hwn with ⟨-, h⟩ | ⟨m, hm, -, h4, -, hr⟩
  · have pn' : f4 n = f4 i := pn
    rw [pn'] at h
    rw [h]; exact own_nm1 (by omega)
  · have := hmin m hm (h4.trans pn)
    omega
set_option maxHeartbeats 2000000 in
theorem own_unlink {z : Int32} {f1 f2 f3 f4 : Nat → Int32} (I : own_inv z f1 f2 f3 f4) {n : Nat} (hn : n < 3) (hw : f4 n ≠ -1) {g1 g2 g3 g4 : Nat → Int32}
    (h1 : ∀ j, g1 j = if f3 n = -1 ∧ j = (f4 n).toNatClampNeg then f2 n else f1 j)
    (h2 : ∀ j, g2 j = if ¬ f3 n = -1 ∧ j = (f3 n).toNatClampNeg then f2 n else f2 j)
    (h3 : ∀ j, g3 j = if ¬ f2 n = -1 ∧ j = (f2 n).toNatClampNeg then f3 n else f3 j)
    (h4 : ∀ j, g4 j = if j = n then -1 else f4 j) : own_inv z g1 g2 g3 g4 := by
  obtain ⟨r, A, B, C, D⟩ := I
  have hkr := (A n hn).resolve_left hw
  have hkn : Int32.ofNat (f4 n).toNatClampNeg = f4 n := own_bk2 hkr.1
  have g4o : ∀ j, j ≠ n → g4 j = f4 j := fun j hj => by rw [h4, if_neg hj]
  have g4w : ∀ i, g4 i ≠ -1 → i ≠ n ∧ f4 i ≠ -1 := fun i hi => by
    rw [h4] at hi
    by_cases q : i = n
    · rw [if_pos q] at hi; exact absurd rfl hi
    · rw [if_neg q] at hi; exact ⟨q, hi⟩
  refine ⟨r, fun i hi => ?_, fun k hk => ?_, fun i hi hwi => ?_, fun i hi hwi => ?_⟩
  · rw [h4]
    by_cases q : i = n
    · rw [if_pos q]; exact Or.inl rfl
    · rw [if_neg q]; exact A i hi
  · rw [h1]
    by_cases q : f3 n = -1 ∧ k = (f4 n).toNatClampNeg
    · rw [if_pos q]
      rcases C n hn hw with c | ⟨a, ha, e1, e2, e3, e4⟩
      · exact Or.inl c
      · have han : a ≠ n := fun h => by rw [h] at e4; omega
        refine Or.inr ⟨a, ha, e1, by rw [g4o a han, e2, q.2, hkn], ?_⟩
        rw [h3, if_pos ⟨by rw [e1]; exact own_nm1 (by omega), by rw [e1, own_nat (by omega)]⟩, q.1]
    · rw [if_neg q]
      rcases B k hk with b | ⟨a, ha, e1, e2, e3⟩
      · exact Or.inl b
      · have han : a ≠ n := fun h => by
          subst h
          exact q ⟨e3, by rw [e2, own_nat (by have := Int32.toInt_lt z; omega)]⟩
        refine Or.inr ⟨a, ha, e1, by rw [g4o a han, e2], ?_⟩
        rw [h3, if_neg, e3]
        rintro ⟨c1, c2⟩
        obtain ⟨b, hb, x1, x2, x3, x4⟩ := (C n hn hw).resolve_left c1
        rw [x1, own_nat (by omega)] at c2
        subst c2
        rw [e3] at x3
        exact own_nm1 (by omega) x3.symm
  · obtain ⟨hin, hwf⟩ := g4w i hwi
    rw [h2, g4o i hin]
    by_cases q : ¬ f3 n = -1 ∧ i = (f3 n).toNatClampNeg
    · rw [if_pos q]
      obtain ⟨b, hb, x1, x2, x3, x4⟩ := (D n hn hw).resolve_left (fun y => q.1 y.1)
      have hib : i = b := by rw [q.2, x1, own_nat (by omega)]
      subst hib
      rcases C n hn hw with c | ⟨a, ha, e1, e2, e3, e4⟩
      · exact Or.inl c
      · have han : a ≠ n := fun h => by rw [h] at e4; omega
        refine Or.inr ⟨a, ha, e1, by rw [g4o a han, e2, x2], ?_, by omega⟩
        rw [h3, if_pos ⟨by rw [e1]; exact own_nm1 (by omega), by rw [e1, own_nat (by omega)]⟩, x1]
    · rw [if_neg q]
      rcases C i hi hwf with c | ⟨a, ha, e1, e2, e3, e4⟩
      · exact Or.inl c
      · have han : a ≠ n := fun h => by
          subst h
          exact q ⟨by rw [e3]; exact own_nm1 (by omega), by rw [e3, own_nat (by omega)]⟩
        refine Or.inr ⟨a, ha, e1, by rw [g4o a han, e2], ?_, e4⟩
        rw [h3, if_neg, e3]
        rintro ⟨c1, c2⟩
        obtain ⟨b, hb, x1, x2, x3, x4⟩ := (C n hn hw).resolve_left c1
        rw [x1, own_nat (by omega)] at c2
        subst c2
        rw [e3] at x3
        exact hin (own_inj (by omega) (by omega) x3)
  · obtain ⟨hin, hwf⟩ := g4w i hwi
    rw [h3, g4o i hin]
    by_cases q : ¬ f2 n = -1 ∧ i = (f2 n).toNatClampNeg
    · rw [if_pos q]
      obtain ⟨b, hb, x1, x2, x3, x4⟩ := (C n hn hw).resolve_left q.1
      have hib : i = b := by rw [q.2, x1, own_nat (by omega)]
      subst hib
      rcases D n hn hw with ⟨c1, c2⟩ | ⟨a, ha, e1, e2, e3, e4⟩
      · refine Or.inl ⟨c1, ?_⟩
        rw [h1, if_pos ⟨c1, by rw [x2]⟩, x1]
      · have han : a ≠ n := fun h => by rw [h] at e4; omega
        refine Or.inr ⟨a, ha, e1, by rw [g4o a han, e2, x2], ?_, by omega⟩
        rw [h2, if_pos ⟨by rw [e1]; exact own_nm1 (by omega), by rw [e1, own_nat (by omega)]⟩, x1]
    · rw [if_neg q]
      rcases D i hi hwf with ⟨c1, c2⟩ | ⟨a, ha, e1, e2, e3, e4⟩
      · refine Or.inl ⟨c1, ?_⟩
        rw [h1, if_neg, c2]
        rintro ⟨y1, y2⟩
        rcases D n hn hw with ⟨-, d2⟩ | ⟨b, hb, x1, -⟩
        · rw [y2] at c2
          exact hin (own_inj (by omega) (by omega) (c2.symm.trans d2))
        · rw [x1] at y1; exact own_nm1 (by omega) y1
      · have han : a ≠ n := fun h => by
          subst h
          exact q ⟨by rw [e3]; exact own_nm1 (by omega), by rw [e3, own_nat (by omega)]⟩
        refine Or.inr ⟨a, ha, e1, by rw [g4o a han, e2], ?_, e4⟩
        rw [h2, if_neg, e3]
        rintro ⟨c1, c2⟩
        obtain ⟨b, hb, x1, x2, x3, x4⟩ := (D n hn hw).resolve_left (fun y => c1 y.1)
        rw [x1, own_nat (by omega)] at c2
        subst c2
        rw [e3] at x3
        exact hin (own_inj (by omega) (by omega) x3)
set_option maxHeartbeats 2000000 in
theorem own_push {z : Int32} {f1 f2 f3 f4 : Nat → Int32} (I : own_inv z f1 f2 f3 f4) {n : Nat} (hn : n < 3) (hw : f4 n = -1) {k : Int32} (hk0 : 0 ≤ k.toInt) (hkz : k.toInt < z.toInt) {g1 g2 g3 g4 : Nat → Int32}
    (h1 : ∀ j, g1 j = if j = k.toNatClampNeg then Int32.ofNat n else f1 j)
    (h2 : ∀ j, g2 j = if j = n then f1 k.toNatClampNeg else f2 j)
    (h3 : ∀ j, g3 j = if ¬ f1 k.toNatClampNeg = -1 ∧ j = (f1 k.toNatClampNeg).toNatClampNeg then Int32.ofNat n else if j = n then -1 else f3 j)
    (h4 : ∀ j, g4 j = if j = n then k else f4 j) : own_inv z g1 g2 g3 g4 := by
  obtain ⟨r, A, B, C, D⟩ := I
  have hkN : ((k.toNatClampNeg : Nat) : Int) < z.toInt := by show ((k.toInt.toNat : Nat) : Int) < _; omega
  have hkb : Int32.ofNat k.toNatClampNeg = k := own_bk2 hk0
  have hk1 : k ≠ -1 := fun h => by rw [h] at hk0; exact absurd hk0 (by decide)
  have hzl := Int32.toInt_lt z
  have g4o : ∀ j, j ≠ n → g4 j = f4 j := fun j hj => by rw [h4, if_neg hj]
  have g4n : g4 n = k := by rw [h4, if_pos rfl]
  have g3n : g3 n = -1 := by
    rw [h3, if_neg, if_pos rfl]
    rintro ⟨c1, c2⟩
    obtain ⟨a, ha, e1, e2, e3⟩ := (B _ hkN).resolve_left c1
    rw [e1, own_nat (by omega)] at c2
    subst c2
    rw [hw] at e2
    exact own_nm1 (by omega) e2.symm
  obtain ⟨rr, rrn, rro⟩ : ∃ rr : Nat → Int, rr n = (if f1 k.toNatClampNeg = -1 then 0 else r (f1 k.toNatClampNeg).toNatClampNeg - 1) ∧ ∀ j, j ≠ n → rr j = r j := ⟨fun j => if j = n then (if f1 k.toNatClampNeg = -1 then 0 else r (f1 k.toNatClampNeg).toNatClampNeg - 1) else r j, if_pos rfl, fun j hj => if_neg hj⟩
  refine ⟨rr, fun i hi => ?_, fun k' hk' => ?_, fun i hi hwi => ?_, fun i hi hwi => ?_⟩
  · by_cases q : i = n
    · subst q; rw [g4n]; exact Or.inr ⟨hk0, hkz⟩
    · rw [g4o i q]; exact A i hi
  · rw [h1]
    by_cases q : k' = k.toNatClampNeg
    · rw [if_pos q]; exact Or.inr ⟨n, hn, rfl, by rw [g4n, q, hkb], g3n⟩
    · rw [if_neg q]
      rcases B k' hk' with b | ⟨a, ha, e1, e2, e3⟩
      · exact Or.inl b
      · have han : a ≠ n := fun h => by rw [h, hw] at e2; exact own_nm1 (by omega) e2.symm
        refine Or.inr ⟨a, ha, e1, by rw [g4o a han, e2], ?_⟩
        rw [h3, if_neg, if_neg han, e3]
        rintro ⟨c1, c2⟩
        obtain ⟨b, hb, x1, x2, x3⟩ := (B _ hkN).resolve_left c1
        rw [x1, own_nat (by omega)] at c2
        subst c2
        rw [e2] at x2
        exact q (own_inj (by omega) (by omega) x2)
  · by_cases q : i = n
    · subst q
      rw [h2, if_pos rfl, g4n]
      rcases B _ hkN with b | ⟨a, ha, e1, e2, e3⟩
      · exact Or.inl b
      · have han : a ≠ i := fun h => by rw [h, hw] at e2; exact own_nm1 (by omega) e2.symm
        refine Or.inr ⟨a, ha, e1, by rw [g4o a han, e2, hkb], ?_, ?_⟩
        · rw [h3, if_pos ⟨by rw [e1]; exact own_nm1 (by omega), by rw [e1, own_nat (by omega)]⟩]
        · rw [rrn, rro a han, if_neg (by rw [e1]; exact own_nm1 (by omega)), e1, own_nat (by omega)]; omega
    · rw [g4o i q] at hwi ⊢
      rw [h2, if_neg q]
      rcases C i hi hwi with c | ⟨a, ha, e1, e2, e3, e4⟩
      · exact Or.inl c
      · have han : a ≠ n := fun h => by rw [h, hw] at e2; exact hwi e2.symm
        refine Or.inr ⟨a, ha, e1, by rw [g4o a han, e2], ?_, by rw [rro i q, rro a han]; exact e4⟩
        rw [h3, if_neg, if_neg han, e3]
        rintro ⟨c1, c2⟩
        obtain ⟨b, hb, x1, x2, x3⟩ := (B _ hkN).resolve_left c1
        rw [x1, own_nat (by omega)] at c2
        subst c2
        rw [e3] at x3
        exact own_nm1 (by omega) x3
  · by_cases q : i = n
    · subst q
      exact Or.inl ⟨g3n, by rw [g4n, h1, if_pos rfl]⟩
    · rw [g4o i q] at hwi ⊢
      by_cases y : ¬ f1 k.toNatClampNeg = -1 ∧ i = (f1 k.toNatClampNeg).toNatClampNeg
      · obtain ⟨b, hb, x1, x2, x3⟩ := (B _ hkN).resolve_left y.1
        have hib : i = b := by rw [y.2, x1, own_nat (by omega)]
        subst hib
        refine Or.inr ⟨n, hn, by rw [h3, if_pos y], by rw [g4n, x2, hkb], by rw [h2, if_pos rfl, x1], ?_⟩
        rw [rrn, rro i q, if_neg y.1, ← y.2]; omega
      · rw [h3, if_neg y, if_neg q]
        rcases D i hi hwi with ⟨c1, c2⟩ | ⟨a, ha, e1, e2, e3, e4⟩
        · refine Or.inl ⟨c1, ?_⟩
          rw [h1, if_neg, c2]
          intro h
          rw [h] at c2
          exact y ⟨by rw [c2]; exact own_nm1 (by omega), by rw [c2, own_nat (by omega)]⟩
        · have han : a ≠ n := fun h => by rw [h, hw] at e2; exact hwi e2.symm
          refine Or.inr ⟨a, ha, e1, by rw [g4o a han, e2], by rw [h2, if_neg han, e3], by rw [rro i q, rro a han]; exact e4⟩


theorem own_p1z {x z : Int32} (h0 : 0 ≤ x.toInt) (h : x < z) : (x + 1).toInt = x.toInt + 1 := by
  have h' : x.toInt < z.toInt := Int32.lt_iff_toInt_lt.mp h
  have hz := Int32.toInt_lt z
  rw [Int32.toInt_add]
  show Int.bmod (x.toInt + 1) _ = _
  exact Int.bmod_eq_of_le (by omega) (by omega)
theorem own_ij {j z : Int32} (h0 : 0 ≤ j.toInt) (h1 : j < z) : ¬ j < 0 ∧ j < z := ⟨fun h => by have : j.toInt < 0 := Int32.lt_iff_toInt_lt.mp h; omega, h1⟩
theorem own_ij2 {j z : Int32} (h : 0 ≤ j.toInt ∧ j.toInt < z.toInt) : ¬ j < 0 ∧ j < z := own_ij h.1 (Int32.lt_iff_toInt_lt.mpr h.2)
theorem own_nlt {j k : Int32} (h : ¬ j < k) : k.toInt ≤ j.toInt := Int.not_lt.mp fun h' => h (Int32.lt_iff_toInt_lt.mpr h')
def noteF (f : Nat → Int32) (p k : Int32) : Nat → Int32 := fun i => if i = p.toNatClampNeg ∧ (f i < 0 ∨ k < f i) then k else f i
theorem own_noteY (f : Nat → Int32) (p k : Int32) (h : f p.toNatClampNeg < 0 ∨ k < f p.toNatClampNeg) (i : Nat) : (fun i => if i = p.toNatClampNeg then k else f i) i = noteF f p k i := by
  show (if i = p.toNatClampNeg then k else f i) = if i = p.toNatClampNeg ∧ (f i < 0 ∨ k < f i) then k else f i
  by_cases q : i = p.toNatClampNeg
  · rw [if_pos q, if_pos ⟨q, by rw [q]; exact h⟩]
  · rw [if_neg q, if_neg (fun y => q y.1)]
theorem own_noteN (f : Nat → Int32) (p k : Int32) (h1 : ¬ f p.toNatClampNeg < 0) (h2 : ¬ k < f p.toNatClampNeg) (i : Nat) : f i = noteF f p k i := by
  show f i = if i = p.toNatClampNeg ∧ (f i < 0 ∨ k < f i) then k else f i
  rw [if_neg]
  rintro ⟨q, y⟩
  rw [q] at y
  exact y.elim h1 h2

theorem d1_0 : decode method_2_code 0 = .ok (.aload_n 0, 1) := by decide +kernel
theorem d1_1 : decode method_2_code 1 = .ok (.iload_n 1, 1) := by decide +kernel
theorem d1_2 : decode method_2_code 2 = .ok (.iaload, 1) := by decide +kernel
theorem d1_3 : decode method_2_code 3 = .ok (.ifCond .lt 10, 3) := by decide +kernel
theorem d1_13 : decode method_2_code 13 = .ok (.aload_n 0, 1) := by decide +kernel
theorem d1_14 : decode method_2_code 14 = .ok (.iload_n 1, 1) := by decide +kernel
theorem d1_15 : decode method_2_code 15 = .ok (.iload_n 2, 1) := by decide +kernel
theorem d1_16 : decode method_2_code 16 = .ok (.iastore, 1) := by decide +kernel
theorem d1_17 : decode method_2_code 17 = .ok (.return_, 1) := by decide +kernel
theorem d1_6 : decode method_2_code 6 = .ok (.iload_n 2, 1) := by decide +kernel
theorem d1_7 : decode method_2_code 7 = .ok (.aload_n 0, 1) := by decide +kernel
theorem d1_8 : decode method_2_code 8 = .ok (.iload_n 1, 1) := by decide +kernel
theorem d1_9 : decode method_2_code 9 = .ok (.iaload, 1) := by decide +kernel
theorem d1_10 : decode method_2_code 10 = .ok (.if_icmp .ge 7, 3) := by decide +kernel
theorem pn_0 : plainName "com/example/hindsight/hindsight/solvers/BucketQueueMinKeyPinLaw" = true := by first | (simp [plainName, overriddenIn]; done) | decide +kernel
theorem ef_1 (m : MethodId) (x0 : Addr) (x1 : Int32) (x2 : Int32) : entryFrame m #[(.ref x0), (.int x1), (.int x2)] 3 = mkF m 0 #[.val (.ref x0), .val (.int x1), .val (.int x2)] [] := by first | (simp [entryFrame, mkF, argsToLocals, Value.category]; done) | rfl
def Q1 (Z : State) (a1 : Addr) (p2 : Int32) (p3 : Int32) (f : Nat → Int32) (h0 : Heap) (n0 : Nat) (v : Option Value) (h : Heap) (L : List Loc) : Prop := v = none ∧ Fr n0 L ∧ Keep h0 h [a1] ∧ AI Z h a1 .int (3 : Int32) (noteF f p2 p3)
set_option maxRecDepth 65536 in
set_option maxHeartbeats 40000000 in
theorem rm1 (l : Launch) (Z : State) (a0 : Array Value) (hw : ∀ d ∈ tables_1, d.before a0 Z = true) (ws : List Jvm.Cond) (a1 : Addr) (p2 : Int32) (p3 : Int32) (f : Nat → Int32) (h0 : Heap) (n0 : Nat) (Z0 : n0 ≤ h0.size) (V_a1 : AI Z h0 a1 .int (3 : Int32) f) (g_a1 : n0 ≤ a1) (hn : ¬ p2 < (0 : Int32) ∧ p2 < (3 : Int32)) :
    MetFree l (⟨"com/example/hindsight/hindsight/solvers/BucketQueueMinKeyPinLaw", "note", "([III)V"⟩ : MethodName) (head1 (Jvm.Cond.code (⟨"com/example/hindsight/hindsight/solvers/BucketQueueMinKeyPinLaw", "note", "([III)V"⟩ : MethodName) method_2_code 3 none :: ws) ({ frames := 0, cells := 0, slots := 0, locals := 0 } : Room)) (fun a U => a = #[(.ref a1), (.int p2), (.int p3)] ∧ Z.Warmed39 U.vm ∧ U.heap = h0) (fun _ _ _ _ _ => True) (fun _ U o U' => ∃ v L, o = .returned v ∧ Q1 Z a1 p2 p3 f h0 n0 v U'.heap L ∧ FrameEnd U o U' L ({ frames := 0, cells := 0, slots := 0, locals := 0 } : Room).cells ({ frames := 0, cells := 0, slots := 0, locals := 0 } : Room).slots) := by
  refine MetFree.of_bodySF (plainFor_of_name pn_0) hisR ?_
  intro p e s m args below meth c s₁ Bd hml0 hP hK
  obtain ⟨rfl, hZ, hh⟩ := hP
  have hx := Bd.exec
  have hlk : meth.locks = false := by first | exact BodyLoose.notSynchronized Bd | exact Body.notSynchronized Bd
  have hby := Bd.bytes
  have hml : c.maxLocals = 3 := hml0
  have hown : s.vm.findClass "com/example/hindsight/hindsight/solvers/BucketQueueMinKeyPinLaw" = some m.cls := findClass_of_methodNamed Bd.named
  have hnm := (name_of_methodNamed Bd.named Bd.method).1
  have X0 : Stand p l e ({ frames := 0, cells := 0, slots := 0, locals := 0 } : Room) s m #[(.ref a1), (.int p2), (.int p3)] below meth c s₁ [] 0 0 := Stand.of_body Bd
  have e0 : s₁.heap = h0 := by rw [← hh, Bd.state]; rfl
  have N0 := Fr.nil n0
  have pre0 : ∀ t, Steps p.tables e below (s₁.setTop (mkF m 0 #[.val (.ref a1), .val (.int p2), .val (.int p3)] [])) t → Steps p.tables e below (s₁.setTop (entryFrame m #[(.ref a1), (.int p2), (.int p3)] 3)) t := fun t k => castTop (ef_1 m a1 p2 p3) k
  obtain ⟨cl1, A1, S1, M1, G1⟩ := id V_a1
  have hin1 : ¬ (p2 < 0 ∨ cl1.slots.size ≤ (p2).toNatClampNeg) := inb_of S1 (hn)
  have hat1 : cl1.slots[(p2).toNatClampNeg]? = some (.int (f (p2).toNatClampNeg)) := AI.at S1 G1 hin1
  have pre2 : ∀ t, Steps p.tables e below (s₁.setTop (mkF m 3 #[.val (.ref a1), .val (.int p2), .val (.int p3)] [(.int (f (p2).toNatClampNeg))])) t → Steps p.tables e below (s₁.setTop (entryFrame m #[(.ref a1), (.int p2), (.int p3)] 3)) t := fun t k => pre0 t (by
    show Steps p.tables e below (s₁.setTop (mkF m 0 #[.val (.ref a1), .val (.int p2), .val (.int p3)] [])) _
    refine XS.aloadN X0.here hx rfl (hb hby d1_0) rfl rfl ?_
    show Steps p.tables e below (s₁.setTop (mkF m 1 #[.val (.ref a1), .val (.int p2), .val (.int p3)] [(.ref a1)])) _
    refine XS.iloadN X0.here hx rfl (hb hby d1_1) rfl ?_
    show Steps p.tables e below (s₁.setTop (mkF m 2 #[.val (.ref a1), .val (.int p2), .val (.int p3)] [(.int p2), (.ref a1)])) _
    refine X0.iaload hx (j := p2) (v := (.int (f (p2).toNatClampNeg))) (by rw [e0]; exact A1.1) (State.isArrayOf_alike hZ.alike A1.2.1) A1.2.2 hin1 hat1 (g := (mkF m 2 #[.val (.ref a1), .val (.int p2), .val (.int p3)] [(.int p2), (.ref a1)])) rfl rfl (hb hby d1_2) _ ?_
    exact k)
  by_cases hc3 : (f (p2).toNatClampNeg) < (0 : Int32)
  · obtain ⟨cl4, A4, S4, M4, G4⟩ := id V_a1
    have hin4 : ¬ (p2 < 0 ∨ cl4.slots.size ≤ (p2).toNatClampNeg) := inb_of S4 (hn)
    obtain ⟨T4, h4, X4, e4, W4, st4⟩ := stI X0 hx hZ e0 A4 (j := p2) hin4 (g := (mkF m 16 #[.val (.ref a1), .val (.int p2), .val (.int p3)] [(.int p3), (.int p2), (.ref a1)])) rfl rfl (hb hby d1_16)
    have V4 : AI Z h4 a1 .int (3 : Int32) (fun i => if i = (p2).toNatClampNeg then p3 else f i) := AI.set A4 S4 M4 G4 W4
    have K4 : Keep h0 h4 [a1] := (Keep.refl h0 [a1]).wr W4 (Or.inl (List.mem_of_getElem? (i := 0) rfl))
    have N4 := Fr.snoc X4 N0 g_a1
    obtain ⟨fs, hr, hrun, hended, hW, hsame⟩ := X4.leave (v := none) (fun _ => rfl) hlk
    refine ⟨_, _, pre2 _ ?_, hrun, hended, _, _, rfl, ?_, ⟨_, rfl⟩, hW, hsame.mono (by decide) (by decide)⟩
    · show Steps p.tables e below (s₁.setTop (mkF m 3 #[.val (.ref a1), .val (.int p2), .val (.int p3)] [(.int (f (p2).toNatClampNeg))])) _
      refine XS.ifYes X0.here hx rfl (pc0 := 3) (pc' := 13) rfl (hb hby d1_3) rfl ((if0 _ _).trans (tlt hc3).1) (by decide) (by decide) ?_
      show Steps p.tables e below (s₁.setTop (mkF m 13 #[.val (.ref a1), .val (.int p2), .val (.int p3)] [])) _
      refine XS.aloadN X0.here hx rfl (hb hby d1_13) rfl rfl ?_
      show Steps p.tables e below (s₁.setTop (mkF m 14 #[.val (.ref a1), .val (.int p2), .val (.int p3)] [(.ref a1)])) _
      refine XS.iloadN X0.here hx rfl (hb hby d1_14) rfl ?_
      show Steps p.tables e below (s₁.setTop (mkF m 15 #[.val (.ref a1), .val (.int p2), .val (.int p3)] [(.int p2), (.ref a1)])) _
      refine XS.iloadN X0.here hx rfl (hb hby d1_15) rfl ?_
      show Steps p.tables e below (s₁.setTop (mkF m 16 #[.val (.ref a1), .val (.int p2), .val (.int p3)] [(.int p3), (.int p2), (.ref a1)])) _
      refine st4 _ ?_
      show Steps p.tables e below (T4.setTop (mkF m 17 #[.val (.ref a1), .val (.int p2), .val (.int p3)] [])) _
      exact X4.returnOut hx Bd.returns (hb hby d1_17) hr
    · show Q1 Z a1 p2 p3 f h0 n0 _ T4.heap _
      rw [e4]
      exact ⟨rfl, N4, K4, (AI.congr V4 (fun i _ => own_noteY f p2 p3 (Or.inl hc3) i))⟩
  · obtain ⟨cl6, A6, S6, M6, G6⟩ := id V_a1
    have hin6 : ¬ (p2 < 0 ∨ cl6.slots.size ≤ (p2).toNatClampNeg) := inb_of S6 (hn)
    have hat6 : cl6.slots[(p2).toNatClampNeg]? = some (.int (f (p2).toNatClampNeg)) := AI.at S6 G6 hin6
    have pre7 : ∀ t, Steps p.tables e below (s₁.setTop (mkF m 10 #[.val (.ref a1), .val (.int p2), .val (.int p3)] [(.int (f (p2).toNatClampNeg)), (.int p3)])) t → Steps p.tables e below (s₁.setTop (entryFrame m #[(.ref a1), (.int p2), (.int p3)] 3)) t := fun t k => pre2 t (by
      show Steps p.tables e below (s₁.setTop (mkF m 3 #[.val (.ref a1), .val (.int p2), .val (.int p3)] [(.int (f (p2).toNatClampNeg))])) _
      refine XS.ifNo X0.here hx rfl (hb hby d1_3) rfl ((if0 _ _).trans (flt hc3).1) ?_
      show Steps p.tables e below (s₁.setTop (mkF m 6 #[.val (.ref a1), .val (.int p2), .val (.int p3)] [])) _
      refine XS.iloadN X0.here hx rfl (hb hby d1_6) rfl ?_
      show Steps p.tables e below (s₁.setTop (mkF m 7 #[.val (.ref a1), .val (.int p2), .val (.int p3)] [(.int p3)])) _
      refine XS.aloadN X0.here hx rfl (hb hby d1_7) rfl rfl ?_
      show Steps p.tables e below (s₁.setTop (mkF m 8 #[.val (.ref a1), .val (.int p2), .val (.int p3)] [(.ref a1), (.int p3)])) _
      refine XS.iloadN X0.here hx rfl (hb hby d1_8) rfl ?_
      show Steps p.tables e below (s₁.setTop (mkF m 9 #[.val (.ref a1), .val (.int p2), .val (.int p3)] [(.int p2), (.ref a1), (.int p3)])) _
      refine X0.iaload hx (j := p2) (v := (.int (f (p2).toNatClampNeg))) (by rw [e0]; exact A6.1) (State.isArrayOf_alike hZ.alike A6.2.1) A6.2.2 hin6 hat6 (g := (mkF m 9 #[.val (.ref a1), .val (.int p2), .val (.int p3)] [(.int p2), (.ref a1), (.int p3)])) rfl rfl (hb hby d1_9) _ ?_
      exact k)
    by_cases hc8 : p3 < (f (p2).toNatClampNeg)
    · obtain ⟨cl9, A9, S9, M9, G9⟩ := id V_a1
      have hin9 : ¬ (p2 < 0 ∨ cl9.slots.size ≤ (p2).toNatClampNeg) := inb_of S9 (hn)
      obtain ⟨T9, h9, X9, e9, W9, st9⟩ := stI X0 hx hZ e0 A9 (j := p2) hin9 (g := (mkF m 16 #[.val (.ref a1), .val (.int p2), .val (.int p3)] [(.int p3), (.int p2), (.ref a1)])) rfl rfl (hb hby d1_16)
      have V9 : AI Z h9 a1 .int (3 : Int32) (fun i => if i = (p2).toNatClampNeg then p3 else f i) := AI.set A9 S9 M9 G9 W9
      have K9 : Keep h0 h9 [a1] := (Keep.refl h0 [a1]).wr W9 (Or.inl (List.mem_of_getElem? (i := 0) rfl))
      have N9 := Fr.snoc X9 N0 g_a1
      obtain ⟨fs, hr, hrun, hended, hW, hsame⟩ := X9.leave (v := none) (fun _ => rfl) hlk
      refine ⟨_, _, pre7 _ ?_, hrun, hended, _, _, rfl, ?_, ⟨_, rfl⟩, hW, hsame.mono (by decide) (by decide)⟩
      · show Steps p.tables e below (s₁.setTop (mkF m 10 #[.val (.ref a1), .val (.int p2), .val (.int p3)] [(.int (f (p2).toNatClampNeg)), (.int p3)])) _
        refine XS.icmpNo X0.here hx rfl (hb hby d1_10) rfl (tlt hc8).2.1 ?_
        show Steps p.tables e below (s₁.setTop (mkF m 13 #[.val (.ref a1), .val (.int p2), .val (.int p3)] [])) _
        refine XS.aloadN X0.here hx rfl (hb hby d1_13) rfl rfl ?_
        show Steps p.tables e below (s₁.setTop (mkF m 14 #[.val (.ref a1), .val (.int p2), .val (.int p3)] [(.ref a1)])) _
        refine XS.iloadN X0.here hx rfl (hb hby d1_14) rfl ?_
        show Steps p.tables e below (s₁.setTop (mkF m 15 #[.val (.ref a1), .val (.int p2), .val (.int p3)] [(.int p2), (.ref a1)])) _
        refine XS.iloadN X0.here hx rfl (hb hby d1_15) rfl ?_
        show Steps p.tables e below (s₁.setTop (mkF m 16 #[.val (.ref a1), .val (.int p2), .val (.int p3)] [(.int p3), (.int p2), (.ref a1)])) _
        refine st9 _ ?_
        show Steps p.tables e below (T9.setTop (mkF m 17 #[.val (.ref a1), .val (.int p2), .val (.int p3)] [])) _
        exact X9.returnOut hx Bd.returns (hb hby d1_17) hr
      · show Q1 Z a1 p2 p3 f h0 n0 _ T9.heap _
        rw [e9]
        exact ⟨rfl, N9, K9, (AI.congr V9 (fun i _ => own_noteY f p2 p3 (Or.inr hc8) i))⟩
    · obtain ⟨fs, hr, hrun, hended, hW, hsame⟩ := X0.leave (v := none) (fun _ => rfl) hlk
      refine ⟨_, _, pre7 _ ?_, hrun, hended, _, _, rfl, ?_, ⟨_, rfl⟩, hW, hsame.mono (by decide) (by decide)⟩
      · show Steps p.tables e below (s₁.setTop (mkF m 10 #[.val (.ref a1), .val (.int p2), .val (.int p3)] [(.int (f (p2).toNatClampNeg)), (.int p3)])) _
        refine XS.icmpYes X0.here hx rfl (pc0 := 10) (pc' := 17) rfl (hb hby d1_10) rfl (flt hc8).2.1 (by decide) (by decide) ?_
        show Steps p.tables e below (s₁.setTop (mkF m 17 #[.val (.ref a1), .val (.int p2), .val (.int p3)] [])) _
        exact X0.returnOut hx Bd.returns (hb hby d1_17) hr
      · show Q1 Z a1 p2 p3 f h0 n0 _ s₁.heap _
        rw [e0]
        exact ⟨rfl, N0, (Keep.refl h0 [a1]), (AI.congr V_a1 (fun i _ => own_noteN f p2 p3 hc3 hc8 i))⟩
theorem d4_0 : decode jdk_65_method_103_code 0 = .ok (.iconst 0, 1) := by decide +kernel
theorem d4_1 : decode jdk_65_method_103_code 1 = .ok (.istore_n 2, 1) := by decide +kernel
theorem d4_2 : decode jdk_65_method_103_code 2 = .ok (.aload_n 0, 1) := by decide +kernel
theorem d4_3 : decode jdk_65_method_103_code 3 = .ok (.arraylength, 1) := by decide +kernel
theorem d4_4 : decode jdk_65_method_103_code 4 = .ok (.istore_n 3, 1) := by decide +kernel
theorem d4_5 : decode jdk_65_method_103_code 5 = .ok (.iload_n 2, 1) := by decide +kernel
theorem d4_6 : decode jdk_65_method_103_code 6 = .ok (.iload_n 3, 1) := by decide +kernel
theorem d4_7 : decode jdk_65_method_103_code 7 = .ok (.if_icmp .ge 13, 3) := by decide +kernel
theorem d4_10 : decode jdk_65_method_103_code 10 = .ok (.aload_n 0, 1) := by decide +kernel
theorem d4_11 : decode jdk_65_method_103_code 11 = .ok (.iload_n 2, 1) := by decide +kernel
theorem d4_12 : decode jdk_65_method_103_code 12 = .ok (.iload_n 1, 1) := by decide +kernel
theorem d4_13 : decode jdk_65_method_103_code 13 = .ok (.iastore, 1) := by decide +kernel
theorem d4_14 : decode jdk_65_method_103_code 14 = .ok (.iinc 2 1, 3) := by decide +kernel
theorem d4_17 : decode jdk_65_method_103_code 17 = .ok (.goto (-12), 3) := by decide +kernel
theorem d4_20 : decode jdk_65_method_103_code 20 = .ok (.return_, 1) := by decide +kernel
theorem pn_1 : plainName "java/util/Arrays" = true := by first | (simp [plainName, overriddenIn]; done) | decide +kernel
theorem ef_4 (m : MethodId) (x0 : Addr) (x1 : Int32) : entryFrame m #[(.ref x0), (.int x1)] 4 = mkF m 0 #[.val (.ref x0), .val (.int x1), .unset, .unset] [] := by first | (simp [entryFrame, mkF, argsToLocals, Value.category]; done) | rfl
def Q4 (Z : State) (a1 : Addr) (p2 : Int32) (f : Nat → Int32) (z : Int32) (h0 : Heap) (n0 : Nat) (v : Option Value) (h : Heap) (L : List Loc) : Prop := v = none ∧ Fr n0 L ∧ Keep h0 h [a1] ∧ AI Z h a1 .int z (fun _ => p2)
set_option maxRecDepth 65536 in
set_option maxHeartbeats 40000000 in
theorem rm4 (l : Launch) (Z : State) (a0 : Array Value) (hw : ∀ d ∈ tables_1, d.before a0 Z = true) (ws : List Jvm.Cond) (a1 : Addr) (p2 : Int32) (f : Nat → Int32) (z : Int32) (h0 : Heap) (n0 : Nat) (Z0 : n0 ≤ h0.size) (V_a1 : AI Z h0 a1 .int z f) (g_a1 : n0 ≤ a1) (hz : 0 ≤ z.toInt) :
    MetFree l (⟨"java/util/Arrays", "fill", "([II)V"⟩ : MethodName) (head1 (Jvm.Cond.code (⟨"java/util/Arrays", "fill", "([II)V"⟩ : MethodName) jdk_65_method_103_code 4 none :: ws) ({ frames := 0, cells := 0, slots := 0, locals := 0 } : Room)) (fun a U => a = #[(.ref a1), (.int p2)] ∧ Z.Warmed39 U.vm ∧ U.heap = h0) (fun _ _ _ _ _ => True) (fun _ U o U' => ∃ v L, o = .returned v ∧ Q4 Z a1 p2 f z h0 n0 v U'.heap L ∧ FrameEnd U o U' L ({ frames := 0, cells := 0, slots := 0, locals := 0 } : Room).cells ({ frames := 0, cells := 0, slots := 0, locals := 0 } : Room).slots) := by
  refine MetFree.of_bodySF (plainFor_of_name pn_1) hisR ?_
  intro p e s m args below meth c s₁ Bd hml0 hP hK
  obtain ⟨rfl, hZ, hh⟩ := hP
  have hx := Bd.exec
  have hlk : meth.locks = false := by first | exact BodyLoose.notSynchronized Bd | exact Body.notSynchronized Bd
  have hby := Bd.bytes
  have hml : c.maxLocals = 4 := hml0
  have hown : s.vm.findClass "java/util/Arrays" = some m.cls := findClass_of_methodNamed Bd.named
  have hnm := (name_of_methodNamed Bd.named Bd.method).1
  have X0 : Stand p l e ({ frames := 0, cells := 0, slots := 0, locals := 0 } : Room) s m #[(.ref a1), (.int p2)] below meth c s₁ [] 0 0 := Stand.of_body Bd
  have e0 : s₁.heap = h0 := by rw [← hh, Bd.state]; rfl
  have N0 := Fr.nil n0
  have pre0 : ∀ t, Steps p.tables e below (s₁.setTop (mkF m 0 #[.val (.ref a1), .val (.int p2), .unset, .unset] [])) t → Steps p.tables e below (s₁.setTop (entryFrame m #[(.ref a1), (.int p2)] 4)) t := fun t k => castTop (ef_4 m a1 p2) k
  obtain ⟨cl1, A1, S1, M1, -⟩ := id V_a1
  have pre2 : ∀ t, Steps p.tables e below (s₁.setTop (mkF m 5 #[.val (.ref a1), .val (.int p2), .val (.int (0 : Int32)), .val (.int z)] [])) t → Steps p.tables e below (s₁.setTop (entryFrame m #[(.ref a1), (.int p2)] 4)) t := fun t k => pre0 t (by
    show Steps p.tables e below (s₁.setTop (mkF m 0 #[.val (.ref a1), .val (.int p2), .unset, .unset] [])) _
    refine XS.iconst X0.here hx rfl (hb hby d4_0) ?_
    show Steps p.tables e below (s₁.setTop (mkF m 1 #[.val (.ref a1), .val (.int p2), .unset, .unset] [(.int (0 : Int32))])) _
    refine XS.istoreN X0.here hx rfl (hb hby d4_1) rfl (l' := #[.val (.ref a1), .val (.int p2), .val (.int (0 : Int32)), .unset]) rfl ?_
    show Steps p.tables e below (s₁.setTop (mkF m 2 #[.val (.ref a1), .val (.int p2), .val (.int (0 : Int32)), .unset] [])) _
    refine XS.aloadN X0.here hx rfl (hb hby d4_2) rfl rfl ?_
    show Steps p.tables e below (s₁.setTop (mkF m 3 #[.val (.ref a1), .val (.int p2), .val (.int (0 : Int32)), .unset] [(.ref a1)])) _
    refine X0.arraylength hx (by rw [e0]; exact A1.1) (State.isArrayOf_alike hZ.alike A1.2.1) (g := (mkF m 3 #[.val (.ref a1), .val (.int p2), .val (.int (0 : Int32)), .unset] [(.ref a1)])) rfl rfl (hb hby d4_3) _ ?_
    rw [len_of S1 M1]
    show Steps p.tables e below (s₁.setTop (mkF m 4 #[.val (.ref a1), .val (.int p2), .val (.int (0 : Int32)), .unset] [(.int z)])) _
    refine XS.istoreN X0.here hx rfl (hb hby d4_4) rfl (l' := #[.val (.ref a1), .val (.int p2), .val (.int (0 : Int32)), .val (.int z)]) rfl ?_
    exact k)
  refine own_loop (α := State × (List Loc) × Heap × Int32 × (Nat → Int32)) (fun a => match a with | (T3, locs3, h3, vi, vg) => 0 ≤ vi.toInt ∧ vi.toInt ≤ z.toInt ∧ (∀ i : Nat, i < vi.toInt.toNat → vg i = p2) ∧ Stand p l e ({ frames := 0, cells := 0, slots := 0, locals := 0 } : Room) s m #[(.ref a1), (.int p2)] below meth c T3 locs3 0 0 ∧ T3.heap = h3 ∧ Fr n0 locs3 ∧ Keep h0 h3 [a1] ∧ AI Z h3 a1 .int z vg ∧ (∀ t, Steps p.tables e below (T3.setTop (mkF m 5 #[.val (.ref a1), .val (.int p2), .val (.int vi), .val (.int z)] [])) t → Steps p.tables e below (s₁.setTop (entryFrame m #[(.ref a1), (.int p2)] 4)) t)) (fun a => match a with | (T3, locs3, h3, vi, vg) => z.toInt.toNat - vi.toInt.toNat) ?_ (s₁, _, _, (0 : Int32), f) ⟨(by decide), hz, (fun i hi => absurd hi (Nat.not_lt_zero _)), X0, e0, N0, Keep.refl _ _, V_a1, pre2⟩
  rintro ⟨T3, locs3, h3, vi, vg⟩ ⟨hv0, hv1, hg, X3, e3, N3, Kl3, Lf3_0, pre3⟩ ih3
  have K4 : Keep h0 h3 [a1] := (Keep.refl h0 [a1]).trans Kl3 (allS (Or.inl (List.mem_of_getElem? (i := 0) rfl)) all0)
  have pre5 : ∀ t, Steps p.tables e below (T3.setTop (mkF m 7 #[.val (.ref a1), .val (.int p2), .val (.int vi), .val (.int z)] [(.int z), (.int vi)])) t → Steps p.tables e below (s₁.setTop (entryFrame m #[(.ref a1), (.int p2)] 4)) t := fun t k => pre3 t (by
    show Steps p.tables e below (T3.setTop (mkF m 5 #[.val (.ref a1), .val (.int p2), .val (.int vi), .val (.int z)] [])) _
    refine XS.iloadN X3.here hx rfl (hb hby d4_5) rfl ?_
    show Steps p.tables e below (T3.setTop (mkF m 6 #[.val (.ref a1), .val (.int p2), .val (.int vi), .val (.int z)] [(.int vi)])) _
    refine XS.iloadN X3.here hx rfl (hb hby d4_6) rfl ?_
    exact k)
  by_cases hc6 : vi < z
  · obtain ⟨cl7, A7, S7, M7, G7⟩ := id Lf3_0
    have hin7 : ¬ (vi < 0 ∨ cl7.slots.size ≤ (vi).toNatClampNeg) := inb_of S7 (own_ij hv0 hc6)
    obtain ⟨T7, h7, X7, e7, W7, st7⟩ := stI X3 hx hZ e3 A7 (j := vi) hin7 (g := (mkF m 13 #[.val (.ref a1), .val (.int p2), .val (.int vi), .val (.int z)] [(.int p2), (.int vi), (.ref a1)])) rfl rfl (hb hby d4_13)
    have V7 : AI Z h7 a1 .int z (fun i => if i = (vi).toNatClampNeg then p2 else vg i) := AI.set A7 S7 M7 G7 W7
    have K7 : Keep h0 h7 [a1] := K4.wr W7 (Or.inl (List.mem_of_getElem? (i := 0) rfl))
    have N7 := Fr.snoc X7 N3 g_a1
    have pre8 : ∀ t, Steps p.tables e below (T7.setTop (mkF m 5 #[.val (.ref a1), .val (.int p2), .val (.int (vi + (1 : Int32))), .val (.int z)] [])) t → Steps p.tables e below (s₁.setTop (entryFrame m #[(.ref a1), (.int p2)] 4)) t := fun t k => pre5 t (by
      show Steps p.tables e below (T3.setTop (mkF m 7 #[.val (.ref a1), .val (.int p2), .val (.int vi), .val (.int z)] [(.int z), (.int vi)])) _
      refine XS.icmpNo X3.here hx rfl (hb hby d4_7) rfl (tlt hc6).2.1 ?_
      show Steps p.tables e below (T3.setTop (mkF m 10 #[.val (.ref a1), .val (.int p2), .val (.int vi), .val (.int z)] [])) _
      refine XS.aloadN X3.here hx rfl (hb hby d4_10) rfl rfl ?_
      show Steps p.tables e below (T3.setTop (mkF m 11 #[.val (.ref a1), .val (.int p2), .val (.int vi), .val (.int z)] [(.ref a1)])) _
      refine XS.iloadN X3.here hx rfl (hb hby d4_11) rfl ?_
      show Steps p.tables e below (T3.setTop (mkF m 12 #[.val (.ref a1), .val (.int p2), .val (.int vi), .val (.int z)] [(.int vi), (.ref a1)])) _
      refine XS.iloadN X3.here hx rfl (hb hby d4_12) rfl ?_
      show Steps p.tables e below (T3.setTop (mkF m 13 #[.val (.ref a1), .val (.int p2), .val (.int vi), .val (.int z)] [(.int p2), (.int vi), (.ref a1)])) _
      refine st7 _ ?_
      show Steps p.tables e below (T7.setTop (mkF m 14 #[.val (.ref a1), .val (.int p2), .val (.int vi), .val (.int z)] [])) _
      refine XS.iinc X7.here hx rfl (hb hby d4_14) rfl (l' := #[.val (.ref a1), .val (.int p2), .val (.int (vi + (1 : Int32))), .val (.int z)]) rfl ?_
      show Steps p.tables e below (T7.setTop (mkF m 17 #[.val (.ref a1), .val (.int p2), .val (.int (vi + (1 : Int32))), .val (.int z)] [])) _
      refine XS.goto X7.here hx rfl (pc0 := 17) (pc' := 5) rfl (hb hby d4_17) (by decide) (by decide) ?_
      exact k)
    exact ih3 (T7, _, _, (vi + (1 : Int32)), (fun i => if i = (vi).toNatClampNeg then p2 else vg i)) ⟨(by rw [own_p1z hv0 hc6]; omega), (by have := Int32.lt_iff_toInt_lt.mp hc6; rw [own_p1z hv0 hc6]; omega), (fun i hi => by rw [own_p1z hv0 hc6] at hi; show (if i = vi.toInt.toNat then p2 else vg i) = p2; by_cases q : i = vi.toInt.toNat; exact if_pos q; rw [if_neg q]; exact hg i (by omega)), X7, e7, N7, ((Kl3.wr W7 (Or.inl (List.mem_of_getElem? (i := 0) rfl)))), V7, fun t k => pre8 t k⟩ ((by show z.toInt.toNat - (vi + 1).toInt.toNat < z.toInt.toNat - vi.toInt.toNat; have := Int32.lt_iff_toInt_lt.mp hc6; rw [own_p1z hv0 hc6]; omega))
  · obtain ⟨fs, hr, hrun, hended, hW, hsame⟩ := X3.leave (v := none) (fun _ => rfl) hlk
    refine ⟨_, _, pre5 _ ?_, hrun, hended, _, _, rfl, ?_, ⟨_, rfl⟩, hW, hsame.mono (by decide) (by decide)⟩
    · show Steps p.tables e below (T3.setTop (mkF m 7 #[.val (.ref a1), .val (.int p2), .val (.int vi), .val (.int z)] [(.int z), (.int vi)])) _
      refine XS.icmpYes X3.here hx rfl (pc0 := 7) (pc' := 20) rfl (hb hby d4_7) rfl (flt hc6).2.1 (by decide) (by decide) ?_
      show Steps p.tables e below (T3.setTop (mkF m 20 #[.val (.ref a1), .val (.int p2), .val (.int vi), .val (.int z)] [])) _
      exact X3.returnOut hx Bd.returns (hb hby d4_20) hr
    · show Q4 Z a1 p2 f z h0 n0 _ T3.heap _
      rw [e3]
      exact ⟨rfl, N3, K4, (AI.congr Lf3_0 (fun i hi => hg i (by have := own_nlt hc6; have hi' : i < z.toInt.toNat := hi; omega)))⟩
theorem d2_0 : decode prog_46_method_1_code 0 = .ok (.aload_n 0, 1) := by decide +kernel
theorem d2_1 : decode prog_46_method_1_code 1 = .ok (.invokespecial 1, 3) := by decide +kernel
theorem d2_4 : decode prog_46_method_1_code 4 = .ok (.aload_n 0, 1) := by decide +kernel
theorem d2_5 : decode prog_46_method_1_code 5 = .ok (.iload_n 2, 1) := by decide +kernel
theorem d2_6 : decode prog_46_method_1_code 6 = .ok (.iconst 1, 1) := by decide +kernel
theorem d2_7 : decode prog_46_method_1_code 7 = .ok (.iadd, 1) := by decide +kernel
theorem d2_8 : decode prog_46_method_1_code 8 = .ok (.newarray .int, 2) := by decide +kernel
theorem d2_10 : decode prog_46_method_1_code 10 = .ok (.putfield 7, 3) := by decide +kernel
theorem d2_13 : decode prog_46_method_1_code 13 = .ok (.aload_n 0, 1) := by decide +kernel
theorem d2_14 : decode prog_46_method_1_code 14 = .ok (.iload_n 1, 1) := by decide +kernel
theorem d2_15 : decode prog_46_method_1_code 15 = .ok (.newarray .int, 2) := by decide +kernel
theorem d2_17 : decode prog_46_method_1_code 17 = .ok (.putfield 13, 3) := by decide +kernel
theorem d2_20 : decode prog_46_method_1_code 20 = .ok (.aload_n 0, 1) := by decide +kernel
theorem d2_21 : decode prog_46_method_1_code 21 = .ok (.iload_n 1, 1) := by decide +kernel
theorem d2_22 : decode prog_46_method_1_code 22 = .ok (.newarray .int, 2) := by decide +kernel
theorem d2_24 : decode prog_46_method_1_code 24 = .ok (.putfield 16, 3) := by decide +kernel
theorem d2_27 : decode prog_46_method_1_code 27 = .ok (.aload_n 0, 1) := by decide +kernel
theorem d2_28 : decode prog_46_method_1_code 28 = .ok (.iload_n 1, 1) := by decide +kernel
theorem d2_29 : decode prog_46_method_1_code 29 = .ok (.newarray .int, 2) := by decide +kernel
theorem d2_31 : decode prog_46_method_1_code 31 = .ok (.putfield 19, 3) := by decide +kernel
theorem d2_34 : decode prog_46_method_1_code 34 = .ok (.aload_n 0, 1) := by decide +kernel
theorem d2_35 : decode prog_46_method_1_code 35 = .ok (.getfield 7, 3) := by decide +kernel
theorem d2_38 : decode prog_46_method_1_code 38 = .ok (.iconst (-1), 1) := by decide +kernel
theorem d2_39 : decode prog_46_method_1_code 39 = .ok (.invokestatic 22, 3) := by decide +kernel
theorem pd_0 : parseMethodDescriptor "([II)V" = some ⟨[(.array .int), .int], none⟩ := by decide +kernel
theorem d2_42 : decode prog_46_method_1_code 42 = .ok (.aload_n 0, 1) := by decide +kernel
theorem d2_43 : decode prog_46_method_1_code 43 = .ok (.getfield 19, 3) := by decide +kernel
theorem d2_46 : decode prog_46_method_1_code 46 = .ok (.iconst (-1), 1) := by decide +kernel
theorem d2_47 : decode prog_46_method_1_code 47 = .ok (.invokestatic 22, 3) := by decide +kernel
theorem d2_50 : decode prog_46_method_1_code 50 = .ok (.return_, 1) := by decide +kernel
theorem pn_2 : plainName "com/example/hindsight/hindsight/solvers/BucketQueue" = true := by first | (simp [plainName, overriddenIn]; done) | decide +kernel
theorem ef_2 (m : MethodId) (x0 : Addr) (x2 : Int32) : entryFrame m #[(.ref x0), (.int (3 : Int32)), (.int x2)] 3 = mkF m 0 #[.val (.ref x0), .val (.int (3 : Int32)), .val (.int x2)] [] := by first | (simp [entryFrame, mkF, argsToLocals, Value.category]; done) | rfl
def Q2 (Z : State) (a1 : Addr) (p3 : Int32) (h0 : Heap) (n0 : Nat) (v : Option Value) (h : Heap) (L : List Loc) : Prop := ∃ r1 : Addr, ∃ r2 : Addr, ∃ r3 : Addr, ∃ r4 : Addr, v = none ∧ Fr n0 L ∧ Keep h0 h [a1] ∧ n0 ≤ r1 ∧ h0.size ≤ r1 ∧ n0 ≤ r2 ∧ h0.size ≤ r2 ∧ n0 ≤ r3 ∧ h0.size ≤ r3 ∧ n0 ≤ r4 ∧ h0.size ≤ r4 ∧ Fld Z h a1 "com/example/hindsight/hindsight/solvers/BucketQueue" "first" "[I" (.ref r1) ∧ Fld Z h a1 "com/example/hindsight/hindsight/solvers/BucketQueue" "next" "[I" (.ref r2) ∧ Fld Z h a1 "com/example/hindsight/hindsight/solvers/BucketQueue" "previous" "[I" (.ref r3) ∧ Fld Z h a1 "com/example/hindsight/hindsight/solvers/BucketQueue" "keyOf" "[I" (.ref r4) ∧ Fld Z h a1 "com/example/hindsight/hindsight/solvers/BucketQueue" "cursor" "I" (.int (0 : Int32)) ∧ Fld Z h a1 "com/example/hindsight/hindsight/solvers/BucketQueue" "size" "I" (.int (0 : Int32)) ∧ AI Z h r1 .int (p3 + (1 : Int32)) (fun _ => (-1 : Int32)) ∧ AI Z h r2 .int (3 : Int32) (fun _ => 0) ∧ AI Z h r3 .int (3 : Int32) (fun _ => 0) ∧ AI Z h r4 .int (3 : Int32) (fun _ => (-1 : Int32)) ∧ a1 ≠ r1 ∧ a1 ≠ r2 ∧ a1 ≠ r3 ∧ a1 ≠ r4 ∧ r1 ≠ r2 ∧ r1 ≠ r3 ∧ r1 ≠ r4 ∧ r2 ≠ r3 ∧ r2 ≠ r4 ∧ r3 ≠ r4
set_option maxRecDepth 65536 in
set_option maxHeartbeats 40000000 in
theorem rm2 (l : Launch) (Z : State) (a0 : Array Value) (hw : ∀ d ∈ tables_1, d.before a0 Z = true) (ws : List Jvm.Cond) (a1 : Addr) (p3 : Int32) (h0 : Heap) (n0 : Nat) (Z0 : n0 ≤ h0.size) (E_a1 : Exa Z h0 a1 "com/example/hindsight/hindsight/solvers/BucketQueue") (g_a1 : n0 ≤ a1) (F_a1_first : Fld Z h0 a1 "com/example/hindsight/hindsight/solvers/BucketQueue" "first" "[I" .null) (F_a1_next : Fld Z h0 a1 "com/example/hindsight/hindsight/solvers/BucketQueue" "next" "[I" .null) (F_a1_previous : Fld Z h0 a1 "com/example/hindsight/hindsight/solvers/BucketQueue" "previous" "[I" .null) (F_a1_keyOf : Fld Z h0 a1 "com/example/hindsight/hindsight/solvers/BucketQueue" "keyOf" "[I" .null) (F_a1_cursor : Fld Z h0 a1 "com/example/hindsight/hindsight/solvers/BucketQueue" "cursor" "I" (.int (0 : Int32))) (F_a1_size : Fld Z h0 a1 "com/example/hindsight/hindsight/solvers/BucketQueue" "size" "I" (.int (0 : Int32))) (hp : 0 ≤ (p3 + (1 : Int32)).toInt ∧ (p3 + (1 : Int32)).toInt ≤ 16) :
    MetFree l (⟨"com/example/hindsight/hindsight/solvers/BucketQueue", "<init>", "(II)V"⟩ : MethodName) (head1 (Jvm.Cond.code (⟨"com/example/hindsight/hindsight/solvers/BucketQueue", "<init>", "(II)V"⟩ : MethodName) prog_46_method_1_code 3 none :: ws) ({ frames := 1, cells := 4, slots := 25, locals := 15 } : Room)) (fun a U => a = #[(.ref a1), (.int (3 : Int32)), (.int p3)] ∧ Z.Warmed39 U.vm ∧ U.heap = h0) (fun _ _ _ _ _ => True) (fun _ U o U' => ∃ v L, o = .returned v ∧ Q2 Z a1 p3 h0 n0 v U'.heap L ∧ FrameEnd U o U' L ({ frames := 1, cells := 4, slots := 25, locals := 15 } : Room).cells ({ frames := 1, cells := 4, slots := 25, locals := 15 } : Room).slots) := by
  refine MetFree.of_bodySF (plainFor_of_name pn_2) hisR ?_
  intro p e s m args below meth c s₁ Bd hml0 hP hK
  obtain ⟨rfl, hZ, hh⟩ := hP
  have hx := Bd.exec
  have hlk : meth.locks = false := by first | exact BodyLoose.notSynchronized Bd | exact Body.notSynchronized Bd
  have hby := Bd.bytes
  have hml : c.maxLocals = 3 := hml0
  have hown : s.vm.findClass "com/example/hindsight/hindsight/solvers/BucketQueue" = some m.cls := findClass_of_methodNamed Bd.named
  have hnm := (name_of_methodNamed Bd.named Bd.method).1
  have X0 : Stand p l e ({ frames := 1, cells := 4, slots := 25, locals := 15 } : Room) s m #[(.ref a1), (.int (3 : Int32)), (.int p3)] below meth c s₁ [] 0 0 := Stand.of_body Bd
  have e0 : s₁.heap = h0 := by rw [← hh, Bd.state]; rfl
  have N0 := Fr.nil n0
  have pre0 : ∀ t, Steps p.tables e below (s₁.setTop (mkF m 0 #[.val (.ref a1), .val (.int (3 : Int32)), .val (.int p3)] [])) t → Steps p.tables e below (s₁.setTop (entryFrame m #[(.ref a1), (.int (3 : Int32)), (.int p3)] 3)) t := fun t k => castTop (ef_2 m a1 p3) k
  obtain ⟨T1, X1, e1, st1⟩ := initO X0 hx hZ hown (hw _ (List.mem_of_getElem? (i := 12) rfl)) (hw _ (List.mem_of_getElem? (i := 13) rfl)) (hw _ (List.mem_of_getElem? (i := 14) rfl)) e0 (g := (mkF m 1 #[.val (.ref a1), .val (.int (3 : Int32)), .val (.int p3)] [(.ref a1)])) rfl (by rw [hml]; rfl) rfl (hb hby d2_1) (by decide) (W := 0) (by show 2 * 0 + _ ≤ _; exact Nat.le_of_eq rfl) (by decide)
  obtain ⟨T2, h2, k2, X2, e2, E2, A2, st2⟩ := newP X1 hx hZ (hw _ (List.mem_of_getElem? (i := 0) rfl)) e1 (g := (mkF m 8 #[.val (.ref a1), .val (.int (3 : Int32)), .val (.int p3)] [(.int (p3 + (1 : Int32))), (.ref a1)])) rfl (hb hby d2_8) rfl (fun h => by have := Int32.lt_iff_toInt_lt.mp h; have e0 : (0 : Int32).toInt = 0 := rfl; omega) (cap := 16) (by show (p3 + (1 : Int32)).toInt.toNat ≤ 16; omega) (by decide) (by decide) (by decide)
  obtain ⟨b2, g2⟩ : ∃ z, z = h0.size := ⟨_, rfl⟩
  rw [← g2] at A2 st2
  have ne3 : a1 ≠ b2 := Nat.ne_of_lt (Nat.lt_of_lt_of_le E_a1.lt (Nat.le_of_eq g2.symm))
  have g_b2 : n0 ≤ b2 := Nat.le_trans Z0 (Nat.le_of_eq g2.symm)
  have sz_b2 : h0.size ≤ b2 := Nat.le_trans (Keep.refl h0 []).1 (Nat.le_of_eq g2.symm)
  have K2 : Keep h0 h2 [a1] := (Keep.refl h0 [a1]).ext E2
  have V_b2 : AI Z h2 b2 .int (p3 + (1 : Int32)) (fun _ => 0) := AI.new A2 (fun h => by have := Int32.lt_iff_toInt_lt.mp h; have e0 : (0 : Int32).toInt = 0 := rfl; omega) rfl
  have F5 := (E_a1.ext E2)
  have F6 := (F_a1_first.ext E2)
  obtain ⟨T4, h4, X4, e4, W4, st4⟩ := putF X2 hx hZ hown (host := "") (Or.inl (hw _ (List.mem_of_getElem? (i := 15) rfl))) Via.refl e2 F6 F5 (Or.inr ⟨(hw _ (List.mem_of_getElem? (i := 16) rfl)), rfl, hnm⟩) (hw _ (List.mem_of_getElem? (i := 7) rfl)) (ty := (.array .int)) (by decide) rfl rfl (g := (mkF m 10 #[.val (.ref a1), .val (.int (3 : Int32)), .val (.int p3)] [(.ref b2), (.ref a1)])) rfl rfl (hb hby d2_10)
  have Fw4 := F6.same W4
  have K4 : Keep h0 h4 [a1] := K2.wr W4 (Or.inl (List.mem_of_getElem? (i := 0) rfl))
  have N4 := Fr.snoc X4 N0 g_a1
  obtain ⟨T7, h7, k7, X7, e7, E7, A7, st7⟩ := newP X4 hx hZ (hw _ (List.mem_of_getElem? (i := 0) rfl)) e4 (g := (mkF m 15 #[.val (.ref a1), .val (.int (3 : Int32)), .val (.int p3)] [(.int (3 : Int32)), (.ref a1)])) rfl (hb hby d2_15) rfl (by decide) (cap := 3) (by decide) (by decide) (by decide) (by decide)
  obtain ⟨b7, g7⟩ : ∃ z, z = h4.size := ⟨_, rfl⟩
  rw [← g7] at A7 st7
  have F8 := (F5.wr W4)
  have ne9 : a1 ≠ b7 := Nat.ne_of_lt (Nat.lt_of_lt_of_le F8.lt (Nat.le_of_eq g7.symm))
  have F10 := (V_b2.other W4 (Ne.symm ne3))
  have ne11 : b2 ≠ b7 := Nat.ne_of_lt (Nat.lt_of_lt_of_le F10.lt (Nat.le_of_eq g7.symm))
  have g_b7 : n0 ≤ b7 := Nat.le_trans (Nat.le_trans Z0 K4.1) (Nat.le_of_eq g7.symm)
  have sz_b7 : h0.size ≤ b7 := Nat.le_trans K4.1 (Nat.le_of_eq g7.symm)
  have K7 : Keep h0 h7 [a1] := K4.ext E7
  have V_b7 : AI Z h7 b7 .int (3 : Int32) (fun _ => 0) := AI.new A7 (by decide) rfl
  have F13 := (F8.ext E7)
  have F14 := (((F_a1_next.ext E2).other W4 (Or.inr (slot_ne (Or.inr (hw _ (List.mem_of_getElem? (i := 18) rfl))) (Or.inr (hw _ (List.mem_of_getElem? (i := 16) rfl))) (by decide) (t := (.array .int)) (t' := (.array .int)) (by decide) (by decide)))).ext E7)
  obtain ⟨T12, h12, X12, e12, W12, st12⟩ := putF X7 hx hZ hown (host := "") (Or.inl (hw _ (List.mem_of_getElem? (i := 17) rfl))) Via.refl e7 F14 F13 (Or.inr ⟨(hw _ (List.mem_of_getElem? (i := 18) rfl)), rfl, hnm⟩) (hw _ (List.mem_of_getElem? (i := 7) rfl)) (ty := (.array .int)) (by decide) rfl rfl (g := (mkF m 17 #[.val (.ref a1), .val (.int (3 : Int32)), .val (.int p3)] [(.ref b7), (.ref a1)])) rfl rfl (hb hby d2_17)
  have Fw12 := F14.same W12
  have K12 : Keep h0 h12 [a1] := K7.wr W12 (Or.inl (List.mem_of_getElem? (i := 0) rfl))
  have N12 := Fr.snoc X12 N4 g_a1
  obtain ⟨T15, h15, k15, X15, e15, E15, A15, st15⟩ := newP X12 hx hZ (hw _ (List.mem_of_getElem? (i := 0) rfl)) e12 (g := (mkF m 22 #[.val (.ref a1), .val (.int (3 : Int32)), .val (.int p3)] [(.int (3 : Int32)), (.ref a1)])) rfl (hb hby d2_22) rfl (by decide) (cap := 3) (by decide) (by decide) (by decide) (by decide)
  obtain ⟨b15, g15⟩ : ∃ z, z = h12.size := ⟨_, rfl⟩
  rw [← g15] at A15 st15
  have F16 := (F13.wr W12)
  have ne17 : a1 ≠ b15 := Nat.ne_of_lt (Nat.lt_of_lt_of_le F16.lt (Nat.le_of_eq g15.symm))
  have F18 := ((F10.ext E7).other W12 (Ne.symm ne3))
  have ne19 : b2 ≠ b15 := Nat.ne_of_lt (Nat.lt_of_lt_of_le F18.lt (Nat.le_of_eq g15.symm))
  have F20 := (V_b7.other W12 (Ne.symm ne9))
  have ne21 : b7 ≠ b15 := Nat.ne_of_lt (Nat.lt_of_lt_of_le F20.lt (Nat.le_of_eq g15.symm))
  have g_b15 : n0 ≤ b15 := Nat.le_trans (Nat.le_trans Z0 K12.1) (Nat.le_of_eq g15.symm)
  have sz_b15 : h0.size ≤ b15 := Nat.le_trans K12.1 (Nat.le_of_eq g15.symm)
  have K15 : Keep h0 h15 [a1] := K12.ext E15
  have V_b15 : AI Z h15 b15 .int (3 : Int32) (fun _ => 0) := AI.new A15 (by decide) rfl
  have F23 := (F16.ext E15)
  have F24 := (((((F_a1_previous.ext E2).other W4 (Or.inr (slot_ne (Or.inr (hw _ (List.mem_of_getElem? (i := 20) rfl))) (Or.inr (hw _ (List.mem_of_getElem? (i := 16) rfl))) (by decide) (t := (.array .int)) (t' := (.array .int)) (by decide) (by decide)))).ext E7).other W12 (Or.inr (slot_ne (Or.inr (hw _ (List.mem_of_getElem? (i := 20) rfl))) (Or.inr (hw _ (List.mem_of_getElem? (i := 18) rfl))) (by decide) (t := (.array .int)) (t' := (.array .int)) (by decide) (by decide)))).ext E15)
  obtain ⟨T22, h22, X22, e22, W22, st22⟩ := putF X15 hx hZ hown (host := "") (Or.inl (hw _ (List.mem_of_getElem? (i := 19) rfl))) Via.refl e15 F24 F23 (Or.inr ⟨(hw _ (List.mem_of_getElem? (i := 20) rfl)), rfl, hnm⟩) (hw _ (List.mem_of_getElem? (i := 7) rfl)) (ty := (.array .int)) (by decide) rfl rfl (g := (mkF m 24 #[.val (.ref a1), .val (.int (3 : Int32)), .val (.int p3)] [(.ref b15), (.ref a1)])) rfl rfl (hb hby d2_24)
  have Fw22 := F24.same W22
  have K22 : Keep h0 h22 [a1] := K15.wr W22 (Or.inl (List.mem_of_getElem? (i := 0) rfl))
  have N22 := Fr.snoc X22 N12 g_a1
  obtain ⟨T25, h25, k25, X25, e25, E25, A25, st25⟩ := newP X22 hx hZ (hw _ (List.mem_of_getElem? (i := 0) rfl)) e22 (g := (mkF m 29 #[.val (.ref a1), .val (.int (3 : Int32)), .val (.int p3)] [(.int (3 : Int32)), (.ref a1)])) rfl (hb hby d2_29) rfl (by decide) (cap := 3) (by decide) (by decide) (by decide) (by decide)
  obtain ⟨b25, g25⟩ : ∃ z, z = h22.size := ⟨_, rfl⟩
  rw [← g25] at A25 st25
  have F26 := (F23.wr W22)
  have ne27 : a1 ≠ b25 := Nat.ne_of_lt (Nat.lt_of_lt_of_le F26.lt (Nat.le_of_eq g25.symm))
  have F28 := ((F18.ext E15).other W22 (Ne.symm ne3))
  have ne29 : b2 ≠ b25 := Nat.ne_of_lt (Nat.lt_of_lt_of_le F28.lt (Nat.le_of_eq g25.symm))
  have F30 := ((F20.ext E15).other W22 (Ne.symm ne9))
  have ne31 : b7 ≠ b25 := Nat.ne_of_lt (Nat.lt_of_lt_of_le F30.lt (Nat.le_of_eq g25.symm))
  have F32 := (V_b15.other W22 (Ne.symm ne17))
  have ne33 : b15 ≠ b25 := Nat.ne_of_lt (Nat.lt_of_lt_of_le F32.lt (Nat.le_of_eq g25.symm))
  have g_b25 : n0 ≤ b25 := Nat.le_trans (Nat.le_trans Z0 K22.1) (Nat.le_of_eq g25.symm)
  have sz_b25 : h0.size ≤ b25 := Nat.le_trans K22.1 (Nat.le_of_eq g25.symm)
  have K25 : Keep h0 h25 [a1] := K22.ext E25
  have V_b25 : AI Z h25 b25 .int (3 : Int32) (fun _ => 0) := AI.new A25 (by decide) rfl
  have F35 := (F26.ext E25)
  have F36 := (((((((F_a1_keyOf.ext E2).other W4 (Or.inr (slot_ne (Or.inr (hw _ (List.mem_of_getElem? (i := 22) rfl))) (Or.inr (hw _ (List.mem_of_getElem? (i := 16) rfl))) (by decide) (t := (.array .int)) (t' := (.array .int)) (by decide) (by decide)))).ext E7).other W12 (Or.inr (slot_ne (Or.inr (hw _ (List.mem_of_getElem? (i := 22) rfl))) (Or.inr (hw _ (List.mem_of_getElem? (i := 18) rfl))) (by decide) (t := (.array .int)) (t' := (.array .int)) (by decide) (by decide)))).ext E15).other W22 (Or.inr (slot_ne (Or.inr (hw _ (List.mem_of_getElem? (i := 22) rfl))) (Or.inr (hw _ (List.mem_of_getElem? (i := 20) rfl))) (by decide) (t := (.array .int)) (t' := (.array .int)) (by decide) (by decide)))).ext E25)
  obtain ⟨T34, h34, X34, e34, W34, st34⟩ := putF X25 hx hZ hown (host := "") (Or.inl (hw _ (List.mem_of_getElem? (i := 21) rfl))) Via.refl e25 F36 F35 (Or.inr ⟨(hw _ (List.mem_of_getElem? (i := 22) rfl)), rfl, hnm⟩) (hw _ (List.mem_of_getElem? (i := 7) rfl)) (ty := (.array .int)) (by decide) rfl rfl (g := (mkF m 31 #[.val (.ref a1), .val (.int (3 : Int32)), .val (.int p3)] [(.ref b25), (.ref a1)])) rfl rfl (hb hby d2_31)
  have Fw34 := F36.same W34
  have K34 : Keep h0 h34 [a1] := K25.wr W34 (Or.inl (List.mem_of_getElem? (i := 0) rfl))
  have N34 := Fr.snoc X34 N22 g_a1
  have F38 := ((((((Fw4.ext E7).other W12 (Or.inr (slot_ne (Or.inr (hw _ (List.mem_of_getElem? (i := 16) rfl))) (Or.inr (hw _ (List.mem_of_getElem? (i := 18) rfl))) (by decide) (t := (.array .int)) (t' := (.array .int)) (by decide) (by decide)))).ext E15).other W22 (Or.inr (slot_ne (Or.inr (hw _ (List.mem_of_getElem? (i := 16) rfl))) (Or.inr (hw _ (List.mem_of_getElem? (i := 20) rfl))) (by decide) (t := (.array .int)) (t' := (.array .int)) (by decide) (by decide)))).ext E25).other W34 (Or.inr (slot_ne (Or.inr (hw _ (List.mem_of_getElem? (i := 16) rfl))) (Or.inr (hw _ (List.mem_of_getElem? (i := 22) rfl))) (by decide) (t := (.array .int)) (t' := (.array .int)) (by decide) (by decide))))
  obtain ⟨T37, X37, e37, st37⟩ := getF X34 hx hZ hown (host := "") (Or.inl (hw _ (List.mem_of_getElem? (i := 15) rfl))) Via.refl e34 F38 (g := (mkF m 35 #[.val (.ref a1), .val (.int (3 : Int32)), .val (.int p3)] [(.ref a1)])) rfl rfl (hb hby d2_35)
  have F39 := ((F28.ext E25).other W34 (Ne.symm ne3))
  obtain ⟨_, _, ⟨T40, L40, k40, n40⟩, -, X40, ⟨Lc40, hQ40, l40, y40, z40⟩, st40⟩ := Jvm.LawKit.callS X37 hx (y := (⟨"java/util/Arrays", "fill", "([II)V"⟩ : MethodName)) hown (mvT hZ (hw _ (List.mem_of_getElem? (i := 23) rfl))) (mvT hZ (hw _ (List.mem_of_getElem? (i := 24) rfl))) (mvT hZ (hw _ (List.mem_of_getElem? (i := 25) rfl))) (mvT hZ (hw _ (List.mem_of_getElem? (i := 26) rfl))) (by decide) (backOf (W := 0) (rm4 l Z a0 hw [] b2 (-1 : Int32) (fun _ => 0) (p3 + (1 : Int32)) h34 n0 (Nat.le_trans Z0 K34.1) F39 g_b2 (hp.1)) hZ (hw _ (List.mem_of_getElem? (i := 26) rfl)) (hw _ (List.mem_of_getElem? (i := 25) rfl)) (by decide) (by decide)) (g := (mkF m 39 #[.val (.ref a1), .val (.int (3 : Int32)), .val (.int p3)] [(.int (-1 : Int32)), (.ref b2)])) rfl (by rw [hml]; rfl) (argsL := [(.ref b2), (.int (-1 : Int32))]) (rest := []) (lenOf pd_0 rfl) rfl (by show 2 * 0 + _ ≤ _; exact Nat.le_of_eq rfl) (hb hby d2_39) (fun _ _ => ⟨rfl, e37, (by decide : 4 + 0 ≤ _), (by decide : 25 + 0 ≤ _)⟩)
  dsimp only [Pt.U, Pt.locs, Pt.cells, Pt.slots] at X40 l40 y40 z40 st40 hQ40
  first | rw [l40, y40, z40] at X40 | subst l40 y40 z40
  obtain ⟨rfl, N40q, K40, P40_0⟩ := hQ40
  have K41 : Keep h0 T40.heap [a1] := K34.trans K40 (allS (Or.inr sz_b2) all0)
  have N40 := Fr.app N34 N40q
  have F43 := (Fw34.keep K40 (ninS ne3 nin0))
  obtain ⟨T42, X42, e42, st42⟩ := getF X40 hx hZ hown (host := "") (Or.inl (hw _ (List.mem_of_getElem? (i := 21) rfl))) Via.refl rfl F43 (g := (mkF m 43 #[.val (.ref a1), .val (.int (3 : Int32)), .val (.int p3)] [(.ref a1)])) rfl rfl (hb hby d2_43)
  have F44 := ((V_b25.other W34 (Ne.symm ne27)).keep K40 (ninS (Ne.symm ne29) nin0))
  obtain ⟨_, _, ⟨T45, L45, k45, n45⟩, -, X45, ⟨Lc45, hQ45, l45, y45, z45⟩, st45⟩ := Jvm.LawKit.callS X42 hx (y := (⟨"java/util/Arrays", "fill", "([II)V"⟩ : MethodName)) hown (mvT hZ (hw _ (List.mem_of_getElem? (i := 23) rfl))) (mvT hZ (hw _ (List.mem_of_getElem? (i := 24) rfl))) (mvT hZ (hw _ (List.mem_of_getElem? (i := 25) rfl))) (mvT hZ (hw _ (List.mem_of_getElem? (i := 26) rfl))) (by decide) (backOf (W := 0) (rm4 l Z a0 hw [] b25 (-1 : Int32) (fun _ => 0) (3 : Int32) (T40.heap) n0 (Nat.le_trans Z0 K41.1) F44 g_b25 (by decide : 0 ≤ (3 : Int32).toInt)) hZ (hw _ (List.mem_of_getElem? (i := 26) rfl)) (hw _ (List.mem_of_getElem? (i := 25) rfl)) (by decide) (by decide)) (g := (mkF m 47 #[.val (.ref a1), .val (.int (3 : Int32)), .val (.int p3)] [(.int (-1 : Int32)), (.ref b25)])) rfl (by rw [hml]; rfl) (argsL := [(.ref b25), (.int (-1 : Int32))]) (rest := []) (lenOf pd_0 rfl) rfl (by show 2 * 0 + _ ≤ _; exact Nat.le_of_eq rfl) (hb hby d2_47) (fun _ _ => ⟨rfl, e42, (by decide : 4 + 0 ≤ _), (by decide : 25 + 0 ≤ _)⟩)
  dsimp only [Pt.U, Pt.locs, Pt.cells, Pt.slots] at X45 l45 y45 z45 st45 hQ45
  first | rw [l45, y45, z45] at X45 | subst l45 y45 z45
  obtain ⟨rfl, N45q, K45, P45_0⟩ := hQ45
  have K46 : Keep h0 T45.heap [a1] := K41.trans K45 (allS (Or.inr sz_b25) all0)
  have N45 := Fr.app N40 N45q
  obtain ⟨fs, hr, hrun, hended, hW, hsame⟩ := X45.leave (v := none) (fun _ => rfl) hlk
  refine ⟨_, _, pre0 _ ?_, hrun, hended, _, _, rfl, ?_, ⟨_, rfl⟩, hW, hsame.mono (by decide) (by decide)⟩
  · show Steps p.tables e below (s₁.setTop (mkF m 0 #[.val (.ref a1), .val (.int (3 : Int32)), .val (.int p3)] [])) _
    refine XS.aloadN X0.here hx rfl (hb hby d2_0) rfl rfl ?_
    show Steps p.tables e below (s₁.setTop (mkF m 1 #[.val (.ref a1), .val (.int (3 : Int32)), .val (.int p3)] [(.ref a1)])) _
    refine st1 _ ?_
    show Steps p.tables e below (T1.setTop (mkF m 4 #[.val (.ref a1), .val (.int (3 : Int32)), .val (.int p3)] [])) _
    refine XS.aloadN X1.here hx rfl (hb hby d2_4) rfl rfl ?_
    show Steps p.tables e below (T1.setTop (mkF m 5 #[.val (.ref a1), .val (.int (3 : Int32)), .val (.int p3)] [(.ref a1)])) _
    refine XS.iloadN X1.here hx rfl (hb hby d2_5) rfl ?_
    show Steps p.tables e below (T1.setTop (mkF m 6 #[.val (.ref a1), .val (.int (3 : Int32)), .val (.int p3)] [(.int p3), (.ref a1)])) _
    refine XS.iconst X1.here hx rfl (hb hby d2_6) ?_
    show Steps p.tables e below (T1.setTop (mkF m 7 #[.val (.ref a1), .val (.int (3 : Int32)), .val (.int p3)] [(.int (1 : Int32)), (.int p3), (.ref a1)])) _
    refine XS.iadd X1.here hx rfl (hb hby d2_7) rfl ?_
    show Steps p.tables e below (T1.setTop (mkF m 8 #[.val (.ref a1), .val (.int (3 : Int32)), .val (.int p3)] [(.int (p3 + (1 : Int32))), (.ref a1)])) _
    refine st2 _ ?_
    show Steps p.tables e below (T2.setTop (mkF m 10 #[.val (.ref a1), .val (.int (3 : Int32)), .val (.int p3)] [(.ref b2), (.ref a1)])) _
    refine st4 _ ?_
    show Steps p.tables e below (T4.setTop (mkF m 13 #[.val (.ref a1), .val (.int (3 : Int32)), .val (.int p3)] [])) _
    refine XS.aloadN X4.here hx rfl (hb hby d2_13) rfl rfl ?_
    show Steps p.tables e below (T4.setTop (mkF m 14 #[.val (.ref a1), .val (.int (3 : Int32)), .val (.int p3)] [(.ref a1)])) _
    refine XS.iloadN X4.here hx rfl (hb hby d2_14) rfl ?_
    show Steps p.tables e below (T4.setTop (mkF m 15 #[.val (.ref a1), .val (.int (3 : Int32)), .val (.int p3)] [(.int (3 : Int32)), (.ref a1)])) _
    refine st7 _ ?_
    show Steps p.tables e below (T7.setTop (mkF m 17 #[.val (.ref a1), .val (.int (3 : Int32)), .val (.int p3)] [(.ref b7), (.ref a1)])) _
    refine st12 _ ?_
    show Steps p.tables e below (T12.setTop (mkF m 20 #[.val (.ref a1), .val (.int (3 : Int32)), .val (.int p3)] [])) _
    refine XS.aloadN X12.here hx rfl (hb hby d2_20) rfl rfl ?_
    show Steps p.tables e below (T12.setTop (mkF m 21 #[.val (.ref a1), .val (.int (3 : Int32)), .val (.int p3)] [(.ref a1)])) _
    refine XS.iloadN X12.here hx rfl (hb hby d2_21) rfl ?_
    show Steps p.tables e below (T12.setTop (mkF m 22 #[.val (.ref a1), .val (.int (3 : Int32)), .val (.int p3)] [(.int (3 : Int32)), (.ref a1)])) _
    refine st15 _ ?_
    show Steps p.tables e below (T15.setTop (mkF m 24 #[.val (.ref a1), .val (.int (3 : Int32)), .val (.int p3)] [(.ref b15), (.ref a1)])) _
    refine st22 _ ?_
    show Steps p.tables e below (T22.setTop (mkF m 27 #[.val (.ref a1), .val (.int (3 : Int32)), .val (.int p3)] [])) _
    refine XS.aloadN X22.here hx rfl (hb hby d2_27) rfl rfl ?_
    show Steps p.tables e below (T22.setTop (mkF m 28 #[.val (.ref a1), .val (.int (3 : Int32)), .val (.int p3)] [(.ref a1)])) _
    refine XS.iloadN X22.here hx rfl (hb hby d2_28) rfl ?_
    show Steps p.tables e below (T22.setTop (mkF m 29 #[.val (.ref a1), .val (.int (3 : Int32)), .val (.int p3)] [(.int (3 : Int32)), (.ref a1)])) _
    refine st25 _ ?_
    show Steps p.tables e below (T25.setTop (mkF m 31 #[.val (.ref a1), .val (.int (3 : Int32)), .val (.int p3)] [(.ref b25), (.ref a1)])) _
    refine st34 _ ?_
    show Steps p.tables e below (T34.setTop (mkF m 34 #[.val (.ref a1), .val (.int (3 : Int32)), .val (.int p3)] [])) _
    refine XS.aloadN X34.here hx rfl (hb hby d2_34) rfl rfl ?_
    show Steps p.tables e below (T34.setTop (mkF m 35 #[.val (.ref a1), .val (.int (3 : Int32)), .val (.int p3)] [(.ref a1)])) _
    refine st37 _ ?_
    show Steps p.tables e below (T37.setTop (mkF m 38 #[.val (.ref a1), .val (.int (3 : Int32)), .val (.int p3)] [(.ref b2)])) _
    refine XS.iconst X37.here hx rfl (hb hby d2_38) ?_
    show Steps p.tables e below (T37.setTop (mkF m 39 #[.val (.ref a1), .val (.int (3 : Int32)), .val (.int p3)] [(.int (-1 : Int32)), (.ref b2)])) _
    refine st40 _ ?_
    show Steps p.tables e below (T40.setTop (mkF m 42 #[.val (.ref a1), .val (.int (3 : Int32)), .val (.int p3)] [])) _
    refine XS.aloadN X40.here hx rfl (hb hby d2_42) rfl rfl ?_
    show Steps p.tables e below (T40.setTop (mkF m 43 #[.val (.ref a1), .val (.int (3 : Int32)), .val (.int p3)] [(.ref a1)])) _
    refine st42 _ ?_
    show Steps p.tables e below (T42.setTop (mkF m 46 #[.val (.ref a1), .val (.int (3 : Int32)), .val (.int p3)] [(.ref b25)])) _
    refine XS.iconst X42.here hx rfl (hb hby d2_46) ?_
    show Steps p.tables e below (T42.setTop (mkF m 47 #[.val (.ref a1), .val (.int (3 : Int32)), .val (.int p3)] [(.int (-1 : Int32)), (.ref b25)])) _
    refine st45 _ ?_
    show Steps p.tables e below (T45.setTop (mkF m 50 #[.val (.ref a1), .val (.int (3 : Int32)), .val (.int p3)] [])) _
    exact X45.returnOut hx Bd.returns (hb hby d2_50) hr
  · show Q2 Z a1 p3 h0 n0 _ T45.heap _
    have F48 := ((F38.keep K40 (ninS ne3 nin0)).keep K45 (ninS ne27 nin0))
    have F49 := ((((((Fw12.ext E15).other W22 (Or.inr (slot_ne (Or.inr (hw _ (List.mem_of_getElem? (i := 18) rfl))) (Or.inr (hw _ (List.mem_of_getElem? (i := 20) rfl))) (by decide) (t := (.array .int)) (t' := (.array .int)) (by decide) (by decide)))).ext E25).other W34 (Or.inr (slot_ne (Or.inr (hw _ (List.mem_of_getElem? (i := 18) rfl))) (Or.inr (hw _ (List.mem_of_getElem? (i := 22) rfl))) (by decide) (t := (.array .int)) (t' := (.array .int)) (by decide) (by decide)))).keep K40 (ninS ne3 nin0)).keep K45 (ninS ne27 nin0))
    have F50 := ((((Fw22.ext E25).other W34 (Or.inr (slot_ne (Or.inr (hw _ (List.mem_of_getElem? (i := 20) rfl))) (Or.inr (hw _ (List.mem_of_getElem? (i := 22) rfl))) (by decide) (t := (.array .int)) (t' := (.array .int)) (by decide) (by decide)))).keep K40 (ninS ne3 nin0)).keep K45 (ninS ne27 nin0))
    have F51 := (F43.keep K45 (ninS ne27 nin0))
    have F52 := ((((((((((F_a1_cursor.ext E2).other W4 (Or.inr (slot_ne (Or.inl (hw _ (List.mem_of_getElem? (i := 33) rfl))) (Or.inr (hw _ (List.mem_of_getElem? (i := 16) rfl))) (by decide) (t := .int) (t' := (.array .int)) (by decide) (by decide)))).ext E7).other W12 (Or.inr (slot_ne (Or.inl (hw _ (List.mem_of_getElem? (i := 33) rfl))) (Or.inr (hw _ (List.mem_of_getElem? (i := 18) rfl))) (by decide) (t := .int) (t' := (.array .int)) (by decide) (by decide)))).ext E15).other W22 (Or.inr (slot_ne (Or.inl (hw _ (List.mem_of_getElem? (i := 33) rfl))) (Or.inr (hw _ (List.mem_of_getElem? (i := 20) rfl))) (by decide) (t := .int) (t' := (.array .int)) (by decide) (by decide)))).ext E25).other W34 (Or.inr (slot_ne (Or.inl (hw _ (List.mem_of_getElem? (i := 33) rfl))) (Or.inr (hw _ (List.mem_of_getElem? (i := 22) rfl))) (by decide) (t := .int) (t' := (.array .int)) (by decide) (by decide)))).keep K40 (ninS ne3 nin0)).keep K45 (ninS ne27 nin0))
    have F53 := ((((((((((F_a1_size.ext E2).other W4 (Or.inr (slot_ne (Or.inl (hw _ (List.mem_of_getElem? (i := 35) rfl))) (Or.inr (hw _ (List.mem_of_getElem? (i := 16) rfl))) (by decide) (t := .int) (t' := (.array .int)) (by decide) (by decide)))).ext E7).other W12 (Or.inr (slot_ne (Or.inl (hw _ (List.mem_of_getElem? (i := 35) rfl))) (Or.inr (hw _ (List.mem_of_getElem? (i := 18) rfl))) (by decide) (t := .int) (t' := (.array .int)) (by decide) (by decide)))).ext E15).other W22 (Or.inr (slot_ne (Or.inl (hw _ (List.mem_of_getElem? (i := 35) rfl))) (Or.inr (hw _ (List.mem_of_getElem? (i := 20) rfl))) (by decide) (t := .int) (t' := (.array .int)) (by decide) (by decide)))).ext E25).other W34 (Or.inr (slot_ne (Or.inl (hw _ (List.mem_of_getElem? (i := 35) rfl))) (Or.inr (hw _ (List.mem_of_getElem? (i := 22) rfl))) (by decide) (t := .int) (t' := (.array .int)) (by decide) (by decide)))).keep K40 (ninS ne3 nin0)).keep K45 (ninS ne27 nin0))
    have F54 := (P40_0.keep K45 (ninS ne29 nin0))
    have F55 := ((((F30.ext E25).other W34 (Ne.symm ne9)).keep K40 (ninS (Ne.symm ne11) nin0)).keep K45 (ninS ne31 nin0))
    have F56 := ((((F32.ext E25).other W34 (Ne.symm ne17)).keep K40 (ninS (Ne.symm ne19) nin0)).keep K45 (ninS ne33 nin0))
    exact ⟨b2, b7, b15, b25, rfl, N45, K46, g_b2, sz_b2, g_b7, sz_b7, g_b15, sz_b15, g_b25, sz_b25, F48, F49, F50, F51, F52, F53, F54, F55, F56, P45_0, ne3, ne9, ne17, ne27, ne11, ne19, ne29, ne21, ne31, ne33⟩

theorem own_next {z c : Int32} {f1 f2 f3 f4 : Nat → Int32} (I : own_inv z f1 f2 f3 f4) (h0 : 0 ≤ c.toInt) (hlo : ∀ i, i < 3 → f4 i ≠ -1 → c.toInt ≤ (f4 i).toInt) (hf : f1 c.toNatClampNeg = -1) (i : Nat) (hi : i < 3) (hw : f4 i ≠ -1) : c.toInt + 1 ≤ (f4 i).toInt := by
  have h := hlo i hi hw
  by_cases q : c.toInt = (f4 i).toInt
  · have q' := Int32.toInt_inj.mp q
    rw [q'] at hf
    exact absurd hf (own_some I hi hw)
  · omega
theorem own_lt {z c : Int32} {f1 f2 f3 f4 : Nat → Int32} (I : own_inv z f1 f2 f3 f4) (hlo : ∀ i, i < 3 → f4 i ≠ -1 → c.toInt ≤ (f4 i).toInt) (hex : ∃ i, i < 3 ∧ f4 i ≠ -1) : c < z := by
  obtain ⟨i, hi, hw⟩ := hex
  have h1 := hlo i hi hw
  have h2 := own_inr I hi hw
  exact Int32.lt_iff_toInt_lt.mpr (by omega)
theorem own_got {z c : Int32} {f1 f2 f3 f4 : Nat → Int32} (I : own_inv z f1 f2 f3 f4) (h0 : 0 ≤ c.toInt) (hc : c < z) (hf : ¬ f1 c.toNatClampNeg = -1) : ∃ i, i < 3 ∧ f4 i = c ∧ f4 i ≠ -1 := by
  obtain ⟨h1, h2⟩ := own_hd I h0 (Int32.lt_iff_toInt_lt.mp hc) hf
  refine ⟨_, (own_range h1).1, h2, ?_⟩
  rw [h2]; intro h; rw [h] at h0; exact absurd h0 (by decide)

theorem d8_0 : decode prog_46_method_8_code 0 = .ok (.aload_n 0, 1) := by decide +kernel
theorem d8_1 : decode prog_46_method_8_code 1 = .ok (.getfield 13, 3) := by decide +kernel
theorem d8_4 : decode prog_46_method_8_code 4 = .ok (.iload_n 1, 1) := by decide +kernel
theorem d8_5 : decode prog_46_method_8_code 5 = .ok (.iaload, 1) := by decide +kernel
theorem d8_6 : decode prog_46_method_8_code 6 = .ok (.istore_n 3, 1) := by decide +kernel
theorem d8_7 : decode prog_46_method_8_code 7 = .ok (.aload_n 0, 1) := by decide +kernel
theorem d8_8 : decode prog_46_method_8_code 8 = .ok (.getfield 16, 3) := by decide +kernel
theorem d8_11 : decode prog_46_method_8_code 11 = .ok (.iload_n 1, 1) := by decide +kernel
theorem d8_12 : decode prog_46_method_8_code 12 = .ok (.iaload, 1) := by decide +kernel
theorem d8_13 : decode prog_46_method_8_code 13 = .ok (.istore 4, 2) := by decide +kernel
theorem d8_15 : decode prog_46_method_8_code 15 = .ok (.iload 4, 2) := by decide +kernel
theorem d8_17 : decode prog_46_method_8_code 17 = .ok (.iconst (-1), 1) := by decide +kernel
theorem d8_18 : decode prog_46_method_8_code 18 = .ok (.if_icmp .ne 13, 3) := by decide +kernel
theorem d8_21 : decode prog_46_method_8_code 21 = .ok (.aload_n 0, 1) := by decide +kernel
theorem d8_22 : decode prog_46_method_8_code 22 = .ok (.getfield 7, 3) := by decide +kernel
theorem d8_25 : decode prog_46_method_8_code 25 = .ok (.iload_n 2, 1) := by decide +kernel
theorem d8_26 : decode prog_46_method_8_code 26 = .ok (.iload_n 3, 1) := by decide +kernel
theorem d8_27 : decode prog_46_method_8_code 27 = .ok (.iastore, 1) := by decide +kernel
theorem d8_28 : decode prog_46_method_8_code 28 = .ok (.goto 11, 3) := by decide +kernel
theorem d8_31 : decode prog_46_method_8_code 31 = .ok (.aload_n 0, 1) := by decide +kernel
theorem d8_32 : decode prog_46_method_8_code 32 = .ok (.getfield 13, 3) := by decide +kernel
theorem d8_35 : decode prog_46_method_8_code 35 = .ok (.iload 4, 2) := by decide +kernel
theorem d8_37 : decode prog_46_method_8_code 37 = .ok (.iload_n 3, 1) := by decide +kernel
theorem d8_38 : decode prog_46_method_8_code 38 = .ok (.iastore, 1) := by decide +kernel
theorem d8_39 : decode prog_46_method_8_code 39 = .ok (.iload_n 3, 1) := by decide +kernel
theorem d8_40 : decode prog_46_method_8_code 40 = .ok (.iconst (-1), 1) := by decide +kernel
theorem d8_41 : decode prog_46_method_8_code 41 = .ok (.if_icmp .eq 11, 3) := by decide +kernel
theorem d8_44 : decode prog_46_method_8_code 44 = .ok (.aload_n 0, 1) := by decide +kernel
theorem d8_45 : decode prog_46_method_8_code 45 = .ok (.getfield 16, 3) := by decide +kernel
theorem d8_48 : decode prog_46_method_8_code 48 = .ok (.iload_n 3, 1) := by decide +kernel
theorem d8_49 : decode prog_46_method_8_code 49 = .ok (.iload 4, 2) := by decide +kernel
theorem d8_51 : decode prog_46_method_8_code 51 = .ok (.iastore, 1) := by decide +kernel
theorem d8_52 : decode prog_46_method_8_code 52 = .ok (.aload_n 0, 1) := by decide +kernel
theorem d8_53 : decode prog_46_method_8_code 53 = .ok (.getfield 19, 3) := by decide +kernel
theorem d8_56 : decode prog_46_method_8_code 56 = .ok (.iload_n 1, 1) := by decide +kernel
theorem d8_57 : decode prog_46_method_8_code 57 = .ok (.iconst (-1), 1) := by decide +kernel
theorem d8_58 : decode prog_46_method_8_code 58 = .ok (.iastore, 1) := by decide +kernel
theorem d8_59 : decode prog_46_method_8_code 59 = .ok (.return_, 1) := by decide +kernel
def m8_6_0 (p2 : Int32) (p3 : Int32) (f1 : Nat → Int32) (f2 : Nat → Int32) (f3 : Nat → Int32) : Nat → Int32 := (if (f3 (p2).toNatClampNeg) = (-1 : Int32) then (fun i => if i = (p3).toNatClampNeg then (f2 (p2).toNatClampNeg) else f1 i) else f1)
def m8_6_1 (p2 : Int32) (f2 : Nat → Int32) (f3 : Nat → Int32) : Nat → Int32 := (if (f3 (p2).toNatClampNeg) = (-1 : Int32) then f2 else (fun i => if i = ((f3 (p2).toNatClampNeg)).toNatClampNeg then (f2 (p2).toNatClampNeg) else f2 i))
def m8_16_0 (p2 : Int32) (f2 : Nat → Int32) (f3 : Nat → Int32) : Nat → Int32 := (if (f2 (p2).toNatClampNeg) = (-1 : Int32) then f3 else (fun i => if i = ((f2 (p2).toNatClampNeg)).toNatClampNeg then (f3 (p2).toNatClampNeg) else f3 i))
theorem ef_8 (m : MethodId) (x0 : Addr) (x1 : Int32) (x2 : Int32) : entryFrame m #[(.ref x0), (.int x1), (.int x2)] 5 = mkF m 0 #[.val (.ref x0), .val (.int x1), .val (.int x2), .unset, .unset] [] := by first | (simp [entryFrame, mkF, argsToLocals, Value.category]; done) | rfl
def Q8 (Z : State) (a1 : Addr) (p2 : Int32) (p3 : Int32) (r1 : Addr) (r2 : Addr) (r3 : Addr) (r4 : Addr) (z : Int32) (w : Int32) (c0 : Int32) (f1 : Nat → Int32) (f2 : Nat → Int32) (f3 : Nat → Int32) (f4 : Nat → Int32) (h0 : Heap) (n0 : Nat) (v : Option Value) (h : Heap) (L : List Loc) : Prop := ∃ g1 : Nat → Int32, ∃ g2 : Nat → Int32, ∃ g3 : Nat → Int32, ∃ g4 : Nat → Int32, v = none ∧ Fr n0 L ∧ Keep h0 h [r1, r2, r3, r4] ∧ AI Z h r1 .int z g1 ∧ AI Z h r2 .int (3 : Int32) g2 ∧ AI Z h r3 .int (3 : Int32) g3 ∧ AI Z h r4 .int (3 : Int32) g4 ∧ (own_inv z g1 g2 g3 g4) ∧ (∀ j, g4 j = if j = p2.toNatClampNeg then (-1 : Int32) else f4 j)
set_option maxRecDepth 65536 in
set_option maxHeartbeats 40000000 in
theorem rm8 (l : Launch) (Z : State) (a0 : Array Value) (hw : ∀ d ∈ tables_1, d.before a0 Z = true) (ws : List Jvm.Cond) (a1 : Addr) (p2 : Int32) (p3 : Int32) (r1 : Addr) (r2 : Addr) (r3 : Addr) (r4 : Addr) (z : Int32) (w : Int32) (c0 : Int32) (f1 : Nat → Int32) (f2 : Nat → Int32) (f3 : Nat → Int32) (f4 : Nat → Int32) (h0 : Heap) (n0 : Nat) (Z0 : n0 ≤ h0.size) (E_a1 : Exa Z h0 a1 "com/example/hindsight/hindsight/solvers/BucketQueue") (F_a1_first : Fld Z h0 a1 "com/example/hindsight/hindsight/solvers/BucketQueue" "first" "[I" (.ref r1)) (F_a1_next : Fld Z h0 a1 "com/example/hindsight/hindsight/solvers/BucketQueue" "next" "[I" (.ref r2)) (F_a1_previous : Fld Z h0 a1 "com/example/hindsight/hindsight/solvers/BucketQueue" "previous" "[I" (.ref r3)) (F_a1_keyOf : Fld Z h0 a1 "com/example/hindsight/hindsight/solvers/BucketQueue" "keyOf" "[I" (.ref r4)) (F_a1_cursor : Fld Z h0 a1 "com/example/hindsight/hindsight/solvers/BucketQueue" "cursor" "I" (.int c0)) (F_a1_size : Fld Z h0 a1 "com/example/hindsight/hindsight/solvers/BucketQueue" "size" "I" (.int w)) (V_r1 : AI Z h0 r1 .int z f1) (V_r2 : AI Z h0 r2 .int (3 : Int32) f2) (V_r3 : AI Z h0 r3 .int (3 : Int32) f3) (V_r4 : AI Z h0 r4 .int (3 : Int32) f4) (g_a1 : n0 ≤ a1) (g_r1 : n0 ≤ r1) (g_r2 : n0 ≤ r2) (g_r3 : n0 ≤ r3) (g_r4 : n0 ≤ r4) (ne_a1_r1 : a1 ≠ r1) (ne_a1_r2 : a1 ≠ r2) (ne_a1_r3 : a1 ≠ r3) (ne_a1_r4 : a1 ≠ r4) (ne_r1_r2 : r1 ≠ r2) (ne_r1_r3 : r1 ≠ r3) (ne_r1_r4 : r1 ≠ r4) (ne_r2_r3 : r2 ≠ r3) (ne_r2_r4 : r2 ≠ r4) (ne_r3_r4 : r3 ≠ r4) (hI : own_inv z f1 f2 f3 f4) (hn : ¬ p2 < (0 : Int32) ∧ p2 < (3 : Int32)) (hk : f4 p2.toNatClampNeg = p3) (hwt : ¬ p3 = (-1 : Int32)) :
    MetFree l (⟨"com/example/hindsight/hindsight/solvers/BucketQueue", "unlink", "(II)V"⟩ : MethodName) (head1 (Jvm.Cond.code (⟨"com/example/hindsight/hindsight/solvers/BucketQueue", "unlink", "(II)V"⟩ : MethodName) prog_46_method_8_code 5 none :: ws) ({ frames := 0, cells := 0, slots := 0, locals := 0 } : Room)) (fun a U => a = #[(.ref a1), (.int p2), (.int p3)] ∧ Z.Warmed39 U.vm ∧ U.heap = h0) (fun _ _ _ _ _ => True) (fun _ U o U' => ∃ v L, o = .returned v ∧ Q8 Z a1 p2 p3 r1 r2 r3 r4 z w c0 f1 f2 f3 f4 h0 n0 v U'.heap L ∧ FrameEnd U o U' L ({ frames := 0, cells := 0, slots := 0, locals := 0 } : Room).cells ({ frames := 0, cells := 0, slots := 0, locals := 0 } : Room).slots) := by
  refine MetFree.of_bodySF (plainFor_of_name pn_2) hisR ?_
  intro p e s m args below meth c s₁ Bd hml0 hP hK
  obtain ⟨rfl, hZ, hh⟩ := hP
  have hx := Bd.exec
  have hlk : meth.locks = false := by first | exact BodyLoose.notSynchronized Bd | exact Body.notSynchronized Bd
  have hby := Bd.bytes
  have hml : c.maxLocals = 5 := hml0
  have hown : s.vm.findClass "com/example/hindsight/hindsight/solvers/BucketQueue" = some m.cls := findClass_of_methodNamed Bd.named
  have hnm := (name_of_methodNamed Bd.named Bd.method).1
  have X0 : Stand p l e ({ frames := 0, cells := 0, slots := 0, locals := 0 } : Room) s m #[(.ref a1), (.int p2), (.int p3)] below meth c s₁ [] 0 0 := Stand.of_body Bd
  have e0 : s₁.heap = h0 := by rw [← hh, Bd.state]; rfl
  have N0 := Fr.nil n0
  have pre0 : ∀ t, Steps p.tables e below (s₁.setTop (mkF m 0 #[.val (.ref a1), .val (.int p2), .val (.int p3), .unset, .unset] [])) t → Steps p.tables e below (s₁.setTop (entryFrame m #[(.ref a1), (.int p2), (.int p3)] 5)) t := fun t k => castTop (ef_8 m a1 p2 p3) k
  obtain ⟨T1, X1, e1, st1⟩ := getF X0 hx hZ hown (host := "") (Or.inl (hw _ (List.mem_of_getElem? (i := 17) rfl))) Via.refl e0 F_a1_next (g := (mkF m 1 #[.val (.ref a1), .val (.int p2), .val (.int p3), .unset, .unset] [(.ref a1)])) rfl rfl (hb hby d8_1)
  obtain ⟨cl2, A2, S2, M2, G2⟩ := id V_r2
  have hin2 : ¬ (p2 < 0 ∨ cl2.slots.size ≤ (p2).toNatClampNeg) := inb_of S2 (hn)
  have hat2 : cl2.slots[(p2).toNatClampNeg]? = some (.int (f2 (p2).toNatClampNeg)) := AI.at S2 G2 hin2
  obtain ⟨T3, X3, e3, st3⟩ := getF X1 hx hZ hown (host := "") (Or.inl (hw _ (List.mem_of_getElem? (i := 19) rfl))) Via.refl e1 F_a1_previous (g := (mkF m 8 #[.val (.ref a1), .val (.int p2), .val (.int p3), .val (.int (f2 (p2).toNatClampNeg)), .unset] [(.ref a1)])) rfl rfl (hb hby d8_8)
  obtain ⟨cl4, A4, S4, M4, G4⟩ := id V_r3
  have hin4 : ¬ (p2 < 0 ∨ cl4.slots.size ≤ (p2).toNatClampNeg) := inb_of S4 (hn)
  have hat4 : cl4.slots[(p2).toNatClampNeg]? = some (.int (f3 (p2).toNatClampNeg)) := AI.at S4 G4 hin4
  have pre5 : ∀ t, Steps p.tables e below (T3.setTop (mkF m 18 #[.val (.ref a1), .val (.int p2), .val (.int p3), .val (.int (f2 (p2).toNatClampNeg)), .val (.int (f3 (p2).toNatClampNeg))] [(.int (-1 : Int32)), (.int (f3 (p2).toNatClampNeg))])) t → Steps p.tables e below (s₁.setTop (entryFrame m #[(.ref a1), (.int p2), (.int p3)] 5)) t := fun t k => pre0 t (by
    show Steps p.tables e below (s₁.setTop (mkF m 0 #[.val (.ref a1), .val (.int p2), .val (.int p3), .unset, .unset] [])) _
    refine XS.aloadN X0.here hx rfl (hb hby d8_0) rfl rfl ?_
    show Steps p.tables e below (s₁.setTop (mkF m 1 #[.val (.ref a1), .val (.int p2), .val (.int p3), .unset, .unset] [(.ref a1)])) _
    refine st1 _ ?_
    show Steps p.tables e below (T1.setTop (mkF m 4 #[.val (.ref a1), .val (.int p2), .val (.int p3), .unset, .unset] [(.ref r2)])) _
    refine XS.iloadN X1.here hx rfl (hb hby d8_4) rfl ?_
    show Steps p.tables e below (T1.setTop (mkF m 5 #[.val (.ref a1), .val (.int p2), .val (.int p3), .unset, .unset] [(.int p2), (.ref r2)])) _
    refine X1.iaload hx (j := p2) (v := (.int (f2 (p2).toNatClampNeg))) (by rw [e1]; exact A2.1) (State.isArrayOf_alike hZ.alike A2.2.1) A2.2.2 hin2 hat2 (g := (mkF m 5 #[.val (.ref a1), .val (.int p2), .val (.int p3), .unset, .unset] [(.int p2), (.ref r2)])) rfl rfl (hb hby d8_5) _ ?_
    show Steps p.tables e below (T1.setTop (mkF m 6 #[.val (.ref a1), .val (.int p2), .val (.int p3), .unset, .unset] [(.int (f2 (p2).toNatClampNeg))])) _
    refine XS.istoreN X1.here hx rfl (hb hby d8_6) rfl (l' := #[.val (.ref a1), .val (.int p2), .val (.int p3), .val (.int (f2 (p2).toNatClampNeg)), .unset]) rfl ?_
    show Steps p.tables e below (T1.setTop (mkF m 7 #[.val (.ref a1), .val (.int p2), .val (.int p3), .val (.int (f2 (p2).toNatClampNeg)), .unset] [])) _
    refine XS.aloadN X1.here hx rfl (hb hby d8_7) rfl rfl ?_
    show Steps p.tables e below (T1.setTop (mkF m 8 #[.val (.ref a1), .val (.int p2), .val (.int p3), .val (.int (f2 (p2).toNatClampNeg)), .unset] [(.ref a1)])) _
    refine st3 _ ?_
    show Steps p.tables e below (T3.setTop (mkF m 11 #[.val (.ref a1), .val (.int p2), .val (.int p3), .val (.int (f2 (p2).toNatClampNeg)), .unset] [(.ref r3)])) _
    refine XS.iloadN X3.here hx rfl (hb hby d8_11) rfl ?_
    show Steps p.tables e below (T3.setTop (mkF m 12 #[.val (.ref a1), .val (.int p2), .val (.int p3), .val (.int (f2 (p2).toNatClampNeg)), .unset] [(.int p2), (.ref r3)])) _
    refine X3.iaload hx (j := p2) (v := (.int (f3 (p2).toNatClampNeg))) (by rw [e3]; exact A4.1) (State.isArrayOf_alike hZ.alike A4.2.1) A4.2.2 hin4 hat4 (g := (mkF m 12 #[.val (.ref a1), .val (.int p2), .val (.int p3), .val (.int (f2 (p2).toNatClampNeg)), .unset] [(.int p2), (.ref r3)])) rfl rfl (hb hby d8_12) _ ?_
    show Steps p.tables e below (T3.setTop (mkF m 13 #[.val (.ref a1), .val (.int p2), .val (.int p3), .val (.int (f2 (p2).toNatClampNeg)), .unset] [(.int (f3 (p2).toNatClampNeg))])) _
    refine XS.istore X3.here hx rfl (hb hby d8_13) rfl (l' := #[.val (.ref a1), .val (.int p2), .val (.int p3), .val (.int (f2 (p2).toNatClampNeg)), .val (.int (f3 (p2).toNatClampNeg))]) rfl ?_
    show Steps p.tables e below (T3.setTop (mkF m 15 #[.val (.ref a1), .val (.int p2), .val (.int p3), .val (.int (f2 (p2).toNatClampNeg)), .val (.int (f3 (p2).toNatClampNeg))] [])) _
    refine XS.iload X3.here hx rfl (hb hby d8_15) rfl ?_
    show Steps p.tables e below (T3.setTop (mkF m 17 #[.val (.ref a1), .val (.int p2), .val (.int p3), .val (.int (f2 (p2).toNatClampNeg)), .val (.int (f3 (p2).toNatClampNeg))] [(.int (f3 (p2).toNatClampNeg))])) _
    refine XS.iconst X3.here hx rfl (hb hby d8_17) ?_
    exact k)
  obtain ⟨T6, locs6, h6, X6, e6, N6, Kj6, P6_0, P6_1, pre6⟩ : ∃ (T' : State) (locs' : List Loc) (h' : Heap), Stand p l e ({ frames := 0, cells := 0, slots := 0, locals := 0 } : Room) s m #[(.ref a1), (.int p2), (.int p3)] below meth c T' locs' 0 0 ∧ T'.heap = h' ∧ Fr n0 locs' ∧ Keep h0 h' [r1, r2] ∧ AI Z h' r1 .int z (m8_6_0 p2 p3 f1 f2 f3) ∧ AI Z h' r2 .int (3 : Int32) (m8_6_1 p2 f2 f3) ∧ ∀ t, Steps p.tables e below (T'.setTop (mkF m 39 #[.val (.ref a1), .val (.int p2), .val (.int p3), .val (.int (f2 (p2).toNatClampNeg)), .val (.int (f3 (p2).toNatClampNeg))] [])) t → Steps p.tables e below (s₁.setTop (entryFrame m #[(.ref a1), (.int p2), (.int p3)] 5)) t := by
    by_cases hc7 : (f3 (p2).toNatClampNeg) = (-1 : Int32)
    · obtain ⟨T8, X8, e8, st8⟩ := getF X3 hx hZ hown (host := "") (Or.inl (hw _ (List.mem_of_getElem? (i := 15) rfl))) Via.refl e3 F_a1_first (g := (mkF m 22 #[.val (.ref a1), .val (.int p2), .val (.int p3), .val (.int (f2 (p2).toNatClampNeg)), .val (.int (f3 (p2).toNatClampNeg))] [(.ref a1)])) rfl rfl (hb hby d8_22)
      obtain ⟨cl9, A9, S9, M9, G9⟩ := id V_r1
      have hin9 : ¬ (p3 < 0 ∨ cl9.slots.size ≤ (p3).toNatClampNeg) := inb_of S9 (own_ij2 (by have h := own_inr hI (own_range hn).1 (by rw [hk]; exact hwt); rw [hk] at h; exact h))
      obtain ⟨T9, h9, X9, e9, W9, st9⟩ := stI X8 hx hZ e8 A9 (j := p3) hin9 (g := (mkF m 27 #[.val (.ref a1), .val (.int p2), .val (.int p3), .val (.int (f2 (p2).toNatClampNeg)), .val (.int (f3 (p2).toNatClampNeg))] [(.int (f2 (p2).toNatClampNeg)), (.int p3), (.ref r1)])) rfl rfl (hb hby d8_27)
      have V9 : AI Z h9 r1 .int z (fun i => if i = (p3).toNatClampNeg then (f2 (p2).toNatClampNeg) else f1 i) := AI.set A9 S9 M9 G9 W9
      have K9 : Keep h0 h9 [r1, r2, r3, r4] := (Keep.refl h0 [r1, r2, r3, r4]).wr W9 (Or.inl (List.mem_of_getElem? (i := 0) rfl))
      have N9 := Fr.snoc X9 N0 g_r1
      have F12 := (V_r2.other W9 (Ne.symm ne_r1_r2))
      exact ⟨_, _, _, X9, e9, N9, ((Keep.refl _ [r1, r2]).wr W9 (Or.inl (List.mem_of_getElem? (i := 0) rfl))), (by rw [show (m8_6_0 p2 p3 f1 f2 f3) = (fun i => if i = (p3).toNatClampNeg then (f2 (p2).toNatClampNeg) else f1 i) from by first | (rw [m8_6_0, if_pos hc7]; done) | (simp only [m8_6_0, if_pos hc7]; done) | rfl]; exact V9), (by rw [show (m8_6_1 p2 f2 f3) = f2 from by first | (rw [m8_6_1, if_pos hc7]; done) | (simp only [m8_6_1, if_pos hc7]; done) | rfl]; exact F12), fun t k => pre5 t (by
        show Steps p.tables e below (T3.setTop (mkF m 18 #[.val (.ref a1), .val (.int p2), .val (.int p3), .val (.int (f2 (p2).toNatClampNeg)), .val (.int (f3 (p2).toNatClampNeg))] [(.int (-1 : Int32)), (.int (f3 (p2).toNatClampNeg))])) _
        refine XS.icmpNo X3.here hx rfl (hb hby d8_18) rfl (teq hc7).2 ?_
        show Steps p.tables e below (T3.setTop (mkF m 21 #[.val (.ref a1), .val (.int p2), .val (.int p3), .val (.int (f2 (p2).toNatClampNeg)), .val (.int (f3 (p2).toNatClampNeg))] [])) _
        refine XS.aloadN X3.here hx rfl (hb hby d8_21) rfl rfl ?_
        show Steps p.tables e below (T3.setTop (mkF m 22 #[.val (.ref a1), .val (.int p2), .val (.int p3), .val (.int (f2 (p2).toNatClampNeg)), .val (.int (f3 (p2).toNatClampNeg))] [(.ref a1)])) _
        refine st8 _ ?_
        show Steps p.tables e below (T8.setTop (mkF m 25 #[.val (.ref a1), .val (.int p2), .val (.int p3), .val (.int (f2 (p2).toNatClampNeg)), .val (.int (f3 (p2).toNatClampNeg))] [(.ref r1)])) _
        refine XS.iloadN X8.here hx rfl (hb hby d8_25) rfl ?_
        show Steps p.tables e below (T8.setTop (mkF m 26 #[.val (.ref a1), .val (.int p2), .val (.int p3), .val (.int (f2 (p2).toNatClampNeg)), .val (.int (f3 (p2).toNatClampNeg))] [(.int p3), (.ref r1)])) _
        refine XS.iloadN X8.here hx rfl (hb hby d8_26) rfl ?_
        show Steps p.tables e below (T8.setTop (mkF m 27 #[.val (.ref a1), .val (.int p2), .val (.int p3), .val (.int (f2 (p2).toNatClampNeg)), .val (.int (f3 (p2).toNatClampNeg))] [(.int (f2 (p2).toNatClampNeg)), (.int p3), (.ref r1)])) _
        refine st9 _ ?_
        show Steps p.tables e below (T9.setTop (mkF m 28 #[.val (.ref a1), .val (.int p2), .val (.int p3), .val (.int (f2 (p2).toNatClampNeg)), .val (.int (f3 (p2).toNatClampNeg))] [])) _
        refine XS.goto X9.here hx rfl (pc0 := 28) (pc' := 39) rfl (hb hby d8_28) (by decide) (by decide) ?_
        exact k)⟩
    · obtain ⟨T10, X10, e10, st10⟩ := getF X3 hx hZ hown (host := "") (Or.inl (hw _ (List.mem_of_getElem? (i := 17) rfl))) Via.refl e3 F_a1_next (g := (mkF m 32 #[.val (.ref a1), .val (.int p2), .val (.int p3), .val (.int (f2 (p2).toNatClampNeg)), .val (.int (f3 (p2).toNatClampNeg))] [(.ref a1)])) rfl rfl (hb hby d8_32)
      obtain ⟨cl11, A11, S11, M11, G11⟩ := id V_r2
      have hin11 : ¬ ((f3 (p2).toNatClampNeg) < 0 ∨ cl11.slots.size ≤ ((f3 (p2).toNatClampNeg)).toNatClampNeg) := inb_of S11 (own_bef hI (own_range hn).1 (by rw [hk]; exact hwt) hc7)
      obtain ⟨T11, h11, X11, e11, W11, st11⟩ := stI X10 hx hZ e10 A11 (j := (f3 (p2).toNatClampNeg)) hin11 (g := (mkF m 38 #[.val (.ref a1), .val (.int p2), .val (.int p3), .val (.int (f2 (p2).toNatClampNeg)), .val (.int (f3 (p2).toNatClampNeg))] [(.int (f2 (p2).toNatClampNeg)), (.int (f3 (p2).toNatClampNeg)), (.ref r2)])) rfl rfl (hb hby d8_38)
      have V11 : AI Z h11 r2 .int (3 : Int32) (fun i => if i = ((f3 (p2).toNatClampNeg)).toNatClampNeg then (f2 (p2).toNatClampNeg) else f2 i) := AI.set A11 S11 M11 G11 W11
      have K11 : Keep h0 h11 [r1, r2, r3, r4] := (Keep.refl h0 [r1, r2, r3, r4]).wr W11 (Or.inl (List.mem_of_getElem? (i := 1) rfl))
      have N11 := Fr.snoc X11 N0 g_r2
      have F13 := (V_r1.other W11 ne_r1_r2)
      exact ⟨_, _, _, X11, e11, N11, ((Keep.refl _ [r1, r2]).wr W11 (Or.inl (List.mem_of_getElem? (i := 1) rfl))), (by rw [show (m8_6_0 p2 p3 f1 f2 f3) = f1 from by first | (rw [m8_6_0, if_neg hc7]; done) | (simp only [m8_6_0, if_neg hc7]; done) | rfl]; exact F13), (by rw [show (m8_6_1 p2 f2 f3) = (fun i => if i = ((f3 (p2).toNatClampNeg)).toNatClampNeg then (f2 (p2).toNatClampNeg) else f2 i) from by first | (rw [m8_6_1, if_neg hc7]; done) | (simp only [m8_6_1, if_neg hc7]; done) | rfl]; exact V11), fun t k => pre5 t (by
        show Steps p.tables e below (T3.setTop (mkF m 18 #[.val (.ref a1), .val (.int p2), .val (.int p3), .val (.int (f2 (p2).toNatClampNeg)), .val (.int (f3 (p2).toNatClampNeg))] [(.int (-1 : Int32)), (.int (f3 (p2).toNatClampNeg))])) _
        refine XS.icmpYes X3.here hx rfl (pc0 := 18) (pc' := 31) rfl (hb hby d8_18) rfl (feq hc7).2 (by decide) (by decide) ?_
        show Steps p.tables e below (T3.setTop (mkF m 31 #[.val (.ref a1), .val (.int p2), .val (.int p3), .val (.int (f2 (p2).toNatClampNeg)), .val (.int (f3 (p2).toNatClampNeg))] [])) _
        refine XS.aloadN X3.here hx rfl (hb hby d8_31) rfl rfl ?_
        show Steps p.tables e below (T3.setTop (mkF m 32 #[.val (.ref a1), .val (.int p2), .val (.int p3), .val (.int (f2 (p2).toNatClampNeg)), .val (.int (f3 (p2).toNatClampNeg))] [(.ref a1)])) _
        refine st10 _ ?_
        show Steps p.tables e below (T10.setTop (mkF m 35 #[.val (.ref a1), .val (.int p2), .val (.int p3), .val (.int (f2 (p2).toNatClampNeg)), .val (.int (f3 (p2).toNatClampNeg))] [(.ref r2)])) _
        refine XS.iload X10.here hx rfl (hb hby d8_35) rfl ?_
        show Steps p.tables e below (T10.setTop (mkF m 37 #[.val (.ref a1), .val (.int p2), .val (.int p3), .val (.int (f2 (p2).toNatClampNeg)), .val (.int (f3 (p2).toNatClampNeg))] [(.int (f3 (p2).toNatClampNeg)), (.ref r2)])) _
        refine XS.iloadN X10.here hx rfl (hb hby d8_37) rfl ?_
        show Steps p.tables e below (T10.setTop (mkF m 38 #[.val (.ref a1), .val (.int p2), .val (.int p3), .val (.int (f2 (p2).toNatClampNeg)), .val (.int (f3 (p2).toNatClampNeg))] [(.int (f2 (p2).toNatClampNeg)), (.int (f3 (p2).toNatClampNeg)), (.ref r2)])) _
        refine st11 _ ?_
        exact k)⟩
  have K14 : Keep h0 h6 [r1, r2, r3, r4] := (Keep.refl h0 [r1, r2, r3, r4]).trans Kj6 (allS (Or.inl (List.mem_of_getElem? (i := 0) rfl)) (allS (Or.inl (List.mem_of_getElem? (i := 1) rfl)) all0))
  have pre15 : ∀ t, Steps p.tables e below (T6.setTop (mkF m 41 #[.val (.ref a1), .val (.int p2), .val (.int p3), .val (.int (f2 (p2).toNatClampNeg)), .val (.int (f3 (p2).toNatClampNeg))] [(.int (-1 : Int32)), (.int (f2 (p2).toNatClampNeg))])) t → Steps p.tables e below (s₁.setTop (entryFrame m #[(.ref a1), (.int p2), (.int p3)] 5)) t := fun t k => pre6 t (by
    show Steps p.tables e below (T6.setTop (mkF m 39 #[.val (.ref a1), .val (.int p2), .val (.int p3), .val (.int (f2 (p2).toNatClampNeg)), .val (.int (f3 (p2).toNatClampNeg))] [])) _
    refine XS.iloadN X6.here hx rfl (hb hby d8_39) rfl ?_
    show Steps p.tables e below (T6.setTop (mkF m 40 #[.val (.ref a1), .val (.int p2), .val (.int p3), .val (.int (f2 (p2).toNatClampNeg)), .val (.int (f3 (p2).toNatClampNeg))] [(.int (f2 (p2).toNatClampNeg))])) _
    refine XS.iconst X6.here hx rfl (hb hby d8_40) ?_
    exact k)
  obtain ⟨T16, locs16, h16, X16, e16, N16, Kj16, P16_0, pre16⟩ : ∃ (T' : State) (locs' : List Loc) (h' : Heap), Stand p l e ({ frames := 0, cells := 0, slots := 0, locals := 0 } : Room) s m #[(.ref a1), (.int p2), (.int p3)] below meth c T' locs' 0 0 ∧ T'.heap = h' ∧ Fr n0 locs' ∧ Keep h6 h' [r3] ∧ AI Z h' r3 .int (3 : Int32) (m8_16_0 p2 f2 f3) ∧ ∀ t, Steps p.tables e below (T'.setTop (mkF m 52 #[.val (.ref a1), .val (.int p2), .val (.int p3), .val (.int (f2 (p2).toNatClampNeg)), .val (.int (f3 (p2).toNatClampNeg))] [])) t → Steps p.tables e below (s₁.setTop (entryFrame m #[(.ref a1), (.int p2), (.int p3)] 5)) t := by
    by_cases hc17 : (f2 (p2).toNatClampNeg) = (-1 : Int32)
    · have F22 := (V_r3.keep Kj6 (ninS (Ne.symm ne_r1_r3) (ninS (Ne.symm ne_r2_r3) nin0)))
      exact ⟨_, _, _, X6, e6, N6, (Keep.refl _ [r3]), (by rw [show (m8_16_0 p2 f2 f3) = f3 from by first | (rw [m8_16_0, if_pos hc17]; done) | (simp only [m8_16_0, if_pos hc17]; done) | rfl]; exact F22), fun t k => pre15 t (by
        show Steps p.tables e below (T6.setTop (mkF m 41 #[.val (.ref a1), .val (.int p2), .val (.int p3), .val (.int (f2 (p2).toNatClampNeg)), .val (.int (f3 (p2).toNatClampNeg))] [(.int (-1 : Int32)), (.int (f2 (p2).toNatClampNeg))])) _
        refine XS.icmpYes X6.here hx rfl (pc0 := 41) (pc' := 52) rfl (hb hby d8_41) rfl (teq hc17).1 (by decide) (by decide) ?_
        exact k)⟩
    · have F19 := (F_a1_previous.keep Kj6 (ninS ne_a1_r1 (ninS ne_a1_r2 nin0)))
      obtain ⟨T18, X18, e18, st18⟩ := getF X6 hx hZ hown (host := "") (Or.inl (hw _ (List.mem_of_getElem? (i := 19) rfl))) Via.refl e6 F19 (g := (mkF m 45 #[.val (.ref a1), .val (.int p2), .val (.int p3), .val (.int (f2 (p2).toNatClampNeg)), .val (.int (f3 (p2).toNatClampNeg))] [(.ref a1)])) rfl rfl (hb hby d8_45)
      have F21 := (V_r3.keep Kj6 (ninS (Ne.symm ne_r1_r3) (ninS (Ne.symm ne_r2_r3) nin0)))
      obtain ⟨cl20, A20, S20, M20, G20⟩ := id F21
      have hin20 : ¬ ((f2 (p2).toNatClampNeg) < 0 ∨ cl20.slots.size ≤ ((f2 (p2).toNatClampNeg)).toNatClampNeg) := inb_of S20 (own_aft hI (own_range hn).1 (by rw [hk]; exact hwt) hc17)
      obtain ⟨T20, h20, X20, e20, W20, st20⟩ := stI X18 hx hZ e18 A20 (j := (f2 (p2).toNatClampNeg)) hin20 (g := (mkF m 51 #[.val (.ref a1), .val (.int p2), .val (.int p3), .val (.int (f2 (p2).toNatClampNeg)), .val (.int (f3 (p2).toNatClampNeg))] [(.int (f3 (p2).toNatClampNeg)), (.int (f2 (p2).toNatClampNeg)), (.ref r3)])) rfl rfl (hb hby d8_51)
      have V20 : AI Z h20 r3 .int (3 : Int32) (fun i => if i = ((f2 (p2).toNatClampNeg)).toNatClampNeg then (f3 (p2).toNatClampNeg) else f3 i) := AI.set A20 S20 M20 G20 W20
      have K20 : Keep h0 h20 [r1, r2, r3, r4] := K14.wr W20 (Or.inl (List.mem_of_getElem? (i := 2) rfl))
      have N20 := Fr.snoc X20 N6 g_r3
      exact ⟨_, _, _, X20, e20, N20, ((Keep.refl _ [r3]).wr W20 (Or.inl (List.mem_of_getElem? (i := 0) rfl))), (by rw [show (m8_16_0 p2 f2 f3) = (fun i => if i = ((f2 (p2).toNatClampNeg)).toNatClampNeg then (f3 (p2).toNatClampNeg) else f3 i) from by first | (rw [m8_16_0, if_neg hc17]; done) | (simp only [m8_16_0, if_neg hc17]; done) | rfl]; exact V20), fun t k => pre15 t (by
        show Steps p.tables e below (T6.setTop (mkF m 41 #[.val (.ref a1), .val (.int p2), .val (.int p3), .val (.int (f2 (p2).toNatClampNeg)), .val (.int (f3 (p2).toNatClampNeg))] [(.int (-1 : Int32)), (.int (f2 (p2).toNatClampNeg))])) _
        refine XS.icmpNo X6.here hx rfl (hb hby d8_41) rfl (feq hc17).1 ?_
        show Steps p.tables e below (T6.setTop (mkF m 44 #[.val (.ref a1), .val (.int p2), .val (.int p3), .val (.int (f2 (p2).toNatClampNeg)), .val (.int (f3 (p2).toNatClampNeg))] [])) _
        refine XS.aloadN X6.here hx rfl (hb hby d8_44) rfl rfl ?_
        show Steps p.tables e below (T6.setTop (mkF m 45 #[.val (.ref a1), .val (.int p2), .val (.int p3), .val (.int (f2 (p2).toNatClampNeg)), .val (.int (f3 (p2).toNatClampNeg))] [(.ref a1)])) _
        refine st18 _ ?_
        show Steps p.tables e below (T18.setTop (mkF m 48 #[.val (.ref a1), .val (.int p2), .val (.int p3), .val (.int (f2 (p2).toNatClampNeg)), .val (.int (f3 (p2).toNatClampNeg))] [(.ref r3)])) _
        refine XS.iloadN X18.here hx rfl (hb hby d8_48) rfl ?_
        show Steps p.tables e below (T18.setTop (mkF m 49 #[.val (.ref a1), .val (.int p2), .val (.int p3), .val (.int (f2 (p2).toNatClampNeg)), .val (.int (f3 (p2).toNatClampNeg))] [(.int (f2 (p2).toNatClampNeg)), (.ref r3)])) _
        refine XS.iload X18.here hx rfl (hb hby d8_49) rfl ?_
        show Steps p.tables e below (T18.setTop (mkF m 51 #[.val (.ref a1), .val (.int p2), .val (.int p3), .val (.int (f2 (p2).toNatClampNeg)), .val (.int (f3 (p2).toNatClampNeg))] [(.int (f3 (p2).toNatClampNeg)), (.int (f2 (p2).toNatClampNeg)), (.ref r3)])) _
        refine st20 _ ?_
        exact k)⟩
  have K23 : Keep h0 h16 [r1, r2, r3, r4] := K14.trans Kj16 (allS (Or.inl (List.mem_of_getElem? (i := 2) rfl)) all0)
  have F25 := ((F_a1_keyOf.keep Kj6 (ninS ne_a1_r1 (ninS ne_a1_r2 nin0))).keep Kj16 (ninS ne_a1_r3 nin0))
  obtain ⟨T24, X24, e24, st24⟩ := getF X16 hx hZ hown (host := "") (Or.inl (hw _ (List.mem_of_getElem? (i := 21) rfl))) Via.refl e16 F25 (g := (mkF m 53 #[.val (.ref a1), .val (.int p2), .val (.int p3), .val (.int (f2 (p2).toNatClampNeg)), .val (.int (f3 (p2).toNatClampNeg))] [(.ref a1)])) rfl rfl (hb hby d8_53)
  have F27 := ((V_r4.keep Kj6 (ninS (Ne.symm ne_r1_r4) (ninS (Ne.symm ne_r2_r4) nin0))).keep Kj16 (ninS (Ne.symm ne_r3_r4) nin0))
  obtain ⟨cl26, A26, S26, M26, G26⟩ := id F27
  have hin26 : ¬ (p2 < 0 ∨ cl26.slots.size ≤ (p2).toNatClampNeg) := inb_of S26 (hn)
  obtain ⟨T26, h26, X26, e26, W26, st26⟩ := stI X24 hx hZ e24 A26 (j := p2) hin26 (g := (mkF m 58 #[.val (.ref a1), .val (.int p2), .val (.int p3), .val (.int (f2 (p2).toNatClampNeg)), .val (.int (f3 (p2).toNatClampNeg))] [(.int (-1 : Int32)), (.int p2), (.ref r4)])) rfl rfl (hb hby d8_58)
  have V26 : AI Z h26 r4 .int (3 : Int32) (fun i => if i = (p2).toNatClampNeg then (-1 : Int32) else f4 i) := AI.set A26 S26 M26 G26 W26
  have K26 : Keep h0 h26 [r1, r2, r3, r4] := K23.wr W26 (Or.inl (List.mem_of_getElem? (i := 3) rfl))
  have N26 := Fr.snoc X26 N16 g_r4
  obtain ⟨fs, hr, hrun, hended, hW, hsame⟩ := X26.leave (v := none) (fun _ => rfl) hlk
  refine ⟨_, _, pre16 _ ?_, hrun, hended, _, _, rfl, ?_, ⟨_, rfl⟩, hW, hsame.mono (by decide) (by decide)⟩
  · show Steps p.tables e below (T16.setTop (mkF m 52 #[.val (.ref a1), .val (.int p2), .val (.int p3), .val (.int (f2 (p2).toNatClampNeg)), .val (.int (f3 (p2).toNatClampNeg))] [])) _
    refine XS.aloadN X16.here hx rfl (hb hby d8_52) rfl rfl ?_
    show Steps p.tables e below (T16.setTop (mkF m 53 #[.val (.ref a1), .val (.int p2), .val (.int p3), .val (.int (f2 (p2).toNatClampNeg)), .val (.int (f3 (p2).toNatClampNeg))] [(.ref a1)])) _
    refine st24 _ ?_
    show Steps p.tables e below (T24.setTop (mkF m 56 #[.val (.ref a1), .val (.int p2), .val (.int p3), .val (.int (f2 (p2).toNatClampNeg)), .val (.int (f3 (p2).toNatClampNeg))] [(.ref r4)])) _
    refine XS.iloadN X24.here hx rfl (hb hby d8_56) rfl ?_
    show Steps p.tables e below (T24.setTop (mkF m 57 #[.val (.ref a1), .val (.int p2), .val (.int p3), .val (.int (f2 (p2).toNatClampNeg)), .val (.int (f3 (p2).toNatClampNeg))] [(.int p2), (.ref r4)])) _
    refine XS.iconst X24.here hx rfl (hb hby d8_57) ?_
    show Steps p.tables e below (T24.setTop (mkF m 58 #[.val (.ref a1), .val (.int p2), .val (.int p3), .val (.int (f2 (p2).toNatClampNeg)), .val (.int (f3 (p2).toNatClampNeg))] [(.int (-1 : Int32)), (.int p2), (.ref r4)])) _
    refine st26 _ ?_
    show Steps p.tables e below (T26.setTop (mkF m 59 #[.val (.ref a1), .val (.int p2), .val (.int p3), .val (.int (f2 (p2).toNatClampNeg)), .val (.int (f3 (p2).toNatClampNeg))] [])) _
    exact X26.returnOut hx Bd.returns (hb hby d8_59) hr
  · show Q8 Z a1 p2 p3 r1 r2 r3 r4 z w c0 f1 f2 f3 f4 h0 n0 _ T26.heap _
    rw [e26]
    have F29 := ((P6_0.keep Kj16 (ninS ne_r1_r3 nin0)).other W26 ne_r1_r4)
    have F30 := ((P6_1.keep Kj16 (ninS ne_r2_r3 nin0)).other W26 ne_r2_r4)
    have F31 := (P16_0.other W26 ne_r3_r4)
    exact ⟨(m8_6_0 p2 p3 f1 f2 f3), (m8_6_1 p2 f2 f3), (m8_16_0 p2 f2 f3), (fun i => if i = (p2).toNatClampNeg then (-1 : Int32) else f4 i), rfl, N26, K26, F29, F30, F31, V26, (own_unlink hI (own_range hn).1 (by rw [hk]; exact hwt) (fun j => by rw [hk]; simp only [m8_6_0, m8_6_1, m8_16_0]; by_cases q : f3 p2.toNatClampNeg = -1 <;> by_cases q2 : f2 p2.toNatClampNeg = -1 <;> by_cases q3 : j = p3.toNatClampNeg <;> simp [q, q2, q3]) (fun j => by simp only [m8_6_0, m8_6_1, m8_16_0]; by_cases q : f3 p2.toNatClampNeg = -1 <;> by_cases q3 : j = (f3 p2.toNatClampNeg).toNatClampNeg <;> simp [q, q3]) (fun j => by simp only [m8_6_0, m8_6_1, m8_16_0]; by_cases q : f2 p2.toNatClampNeg = -1 <;> by_cases q3 : j = (f2 p2.toNatClampNeg).toNatClampNeg <;> simp [q, q3]) (fun j => rfl)), (fun j => rfl)⟩
theorem d6_0 : decode prog_46_method_6_code 0 = .ok (.aload_n 0, 1) := by decide +kernel
theorem d6_1 : decode prog_46_method_6_code 1 = .ok (.getfield 7, 3) := by decide +kernel
theorem d6_4 : decode prog_46_method_6_code 4 = .ok (.aload_n 0, 1) := by decide +kernel
theorem d6_5 : decode prog_46_method_6_code 5 = .ok (.getfield 36, 3) := by decide +kernel
theorem d6_8 : decode prog_46_method_6_code 8 = .ok (.iaload, 1) := by decide +kernel
theorem d6_9 : decode prog_46_method_6_code 9 = .ok (.iconst (-1), 1) := by decide +kernel
theorem d6_10 : decode prog_46_method_6_code 10 = .ok (.if_icmp .ne 16, 3) := by decide +kernel
theorem d6_13 : decode prog_46_method_6_code 13 = .ok (.aload_n 0, 1) := by decide +kernel
theorem d6_14 : decode prog_46_method_6_code 14 = .ok (.dup, 1) := by decide +kernel
theorem d6_15 : decode prog_46_method_6_code 15 = .ok (.getfield 36, 3) := by decide +kernel
theorem d6_18 : decode prog_46_method_6_code 18 = .ok (.iconst 1, 1) := by decide +kernel
theorem d6_19 : decode prog_46_method_6_code 19 = .ok (.iadd, 1) := by decide +kernel
theorem d6_20 : decode prog_46_method_6_code 20 = .ok (.putfield 36, 3) := by decide +kernel
theorem d6_23 : decode prog_46_method_6_code 23 = .ok (.goto (-23), 3) := by decide +kernel
theorem d6_26 : decode prog_46_method_6_code 26 = .ok (.aload_n 0, 1) := by decide +kernel
theorem d6_27 : decode prog_46_method_6_code 27 = .ok (.getfield 36, 3) := by decide +kernel
theorem d6_30 : decode prog_46_method_6_code 30 = .ok (.ireturn, 1) := by decide +kernel
theorem ef_6 (m : MethodId) (x0 : Addr) : entryFrame m #[(.ref x0)] 1 = mkF m 0 #[.val (.ref x0)] [] := by first | (simp [entryFrame, mkF, argsToLocals, Value.category]; done) | rfl
def Q6 (Z : State) (a1 : Addr) (r1 : Addr) (r2 : Addr) (r3 : Addr) (r4 : Addr) (z : Int32) (w : Int32) (c0 : Int32) (f1 : Nat → Int32) (f2 : Nat → Int32) (f3 : Nat → Int32) (f4 : Nat → Int32) (h0 : Heap) (n0 : Nat) (v : Option Value) (h : Heap) (L : List Loc) : Prop := ∃ mv : Int32, v = some (.int mv) ∧ Fr n0 L ∧ Keep h0 h [a1] ∧ Fld Z h a1 "com/example/hindsight/hindsight/solvers/BucketQueue" "first" "[I" (.ref r1) ∧ Fld Z h a1 "com/example/hindsight/hindsight/solvers/BucketQueue" "next" "[I" (.ref r2) ∧ Fld Z h a1 "com/example/hindsight/hindsight/solvers/BucketQueue" "previous" "[I" (.ref r3) ∧ Fld Z h a1 "com/example/hindsight/hindsight/solvers/BucketQueue" "keyOf" "[I" (.ref r4) ∧ Fld Z h a1 "com/example/hindsight/hindsight/solvers/BucketQueue" "cursor" "I" (.int mv) ∧ Fld Z h a1 "com/example/hindsight/hindsight/solvers/BucketQueue" "size" "I" (.int w) ∧ (∃ i, i < 3 ∧ f4 i = mv ∧ f4 i ≠ -1) ∧ (∀ i, i < 3 → f4 i ≠ -1 → mv.toInt ≤ (f4 i).toInt) ∧ (0 ≤ mv.toInt ∧ mv.toInt < z.toInt) ∧ (¬ f1 mv.toNatClampNeg = -1)
set_option maxRecDepth 65536 in
set_option maxHeartbeats 40000000 in
theorem rm6 (l : Launch) (Z : State) (a0 : Array Value) (hw : ∀ d ∈ tables_1, d.before a0 Z = true) (ws : List Jvm.Cond) (a1 : Addr) (r1 : Addr) (r2 : Addr) (r3 : Addr) (r4 : Addr) (z : Int32) (w : Int32) (c0 : Int32) (f1 : Nat → Int32) (f2 : Nat → Int32) (f3 : Nat → Int32) (f4 : Nat → Int32) (h0 : Heap) (n0 : Nat) (Z0 : n0 ≤ h0.size) (E_a1 : Exa Z h0 a1 "com/example/hindsight/hindsight/solvers/BucketQueue") (F_a1_first : Fld Z h0 a1 "com/example/hindsight/hindsight/solvers/BucketQueue" "first" "[I" (.ref r1)) (F_a1_next : Fld Z h0 a1 "com/example/hindsight/hindsight/solvers/BucketQueue" "next" "[I" (.ref r2)) (F_a1_previous : Fld Z h0 a1 "com/example/hindsight/hindsight/solvers/BucketQueue" "previous" "[I" (.ref r3)) (F_a1_keyOf : Fld Z h0 a1 "com/example/hindsight/hindsight/solvers/BucketQueue" "keyOf" "[I" (.ref r4)) (F_a1_cursor : Fld Z h0 a1 "com/example/hindsight/hindsight/solvers/BucketQueue" "cursor" "I" (.int c0)) (F_a1_size : Fld Z h0 a1 "com/example/hindsight/hindsight/solvers/BucketQueue" "size" "I" (.int w)) (V_r1 : AI Z h0 r1 .int z f1) (V_r2 : AI Z h0 r2 .int (3 : Int32) f2) (V_r3 : AI Z h0 r3 .int (3 : Int32) f3) (V_r4 : AI Z h0 r4 .int (3 : Int32) f4) (g_a1 : n0 ≤ a1) (g_r1 : n0 ≤ r1) (g_r2 : n0 ≤ r2) (g_r3 : n0 ≤ r3) (g_r4 : n0 ≤ r4) (ne_a1_r1 : a1 ≠ r1) (ne_a1_r2 : a1 ≠ r2) (ne_a1_r3 : a1 ≠ r3) (ne_a1_r4 : a1 ≠ r4) (ne_r1_r2 : r1 ≠ r2) (ne_r1_r3 : r1 ≠ r3) (ne_r1_r4 : r1 ≠ r4) (ne_r2_r3 : r2 ≠ r3) (ne_r2_r4 : r2 ≠ r4) (ne_r3_r4 : r3 ≠ r4) (hI : own_inv z f1 f2 f3 f4) (hlo : ∀ i, i < 3 → f4 i ≠ -1 → c0.toInt ≤ (f4 i).toInt) (hex : ∃ i, i < 3 ∧ f4 i ≠ -1) (hc0 : 0 ≤ c0.toInt) :
    MetFree l (⟨"com/example/hindsight/hindsight/solvers/BucketQueue", "minKey", "()I"⟩ : MethodName) (head1 (Jvm.Cond.code (⟨"com/example/hindsight/hindsight/solvers/BucketQueue", "minKey", "()I"⟩ : MethodName) prog_46_method_6_code 1 (some .int) :: ws) ({ frames := 0, cells := 0, slots := 0, locals := 0 } : Room)) (fun a U => a = #[(.ref a1)] ∧ Z.Warmed39 U.vm ∧ U.heap = h0) (fun _ _ _ _ _ => True) (fun _ U o U' => ∃ v L, o = .returned v ∧ Q6 Z a1 r1 r2 r3 r4 z w c0 f1 f2 f3 f4 h0 n0 v U'.heap L ∧ FrameEnd U o U' L ({ frames := 0, cells := 0, slots := 0, locals := 0 } : Room).cells ({ frames := 0, cells := 0, slots := 0, locals := 0 } : Room).slots) := by
  refine MetFree.of_bodySF (plainFor_of_name pn_2) hisR ?_
  intro p e s m args below meth c s₁ Bd hml0 hP hK
  obtain ⟨rfl, hZ, hh⟩ := hP
  have hx := Bd.exec
  have hlk : meth.locks = false := by first | exact BodyLoose.notSynchronized Bd | exact Body.notSynchronized Bd
  have hby := Bd.bytes
  have hml : c.maxLocals = 1 := hml0
  have hown : s.vm.findClass "com/example/hindsight/hindsight/solvers/BucketQueue" = some m.cls := findClass_of_methodNamed Bd.named
  have hnm := (name_of_methodNamed Bd.named Bd.method).1
  have X0 : Stand p l e ({ frames := 0, cells := 0, slots := 0, locals := 0 } : Room) s m #[(.ref a1)] below meth c s₁ [] 0 0 := Stand.of_body Bd
  have e0 : s₁.heap = h0 := by rw [← hh, Bd.state]; rfl
  have N0 := Fr.nil n0
  have pre0 : ∀ t, Steps p.tables e below (s₁.setTop (mkF m 0 #[.val (.ref a1)] [])) t → Steps p.tables e below (s₁.setTop (entryFrame m #[(.ref a1)] 1)) t := fun t k => castTop (ef_6 m a1) k
  refine own_loop (α := State × (List Loc) × Heap × Int32) (fun a => match a with | (T1, locs1, h1, vc) => 0 ≤ vc.toInt ∧ (∀ i, i < 3 → f4 i ≠ -1 → vc.toInt ≤ (f4 i).toInt) ∧ Stand p l e ({ frames := 0, cells := 0, slots := 0, locals := 0 } : Room) s m #[(.ref a1)] below meth c T1 locs1 0 0 ∧ T1.heap = h1 ∧ Fr n0 locs1 ∧ Keep h0 h1 [a1] ∧ Fld Z h1 a1 "com/example/hindsight/hindsight/solvers/BucketQueue" "first" "[I" (.ref r1) ∧ Fld Z h1 a1 "com/example/hindsight/hindsight/solvers/BucketQueue" "next" "[I" (.ref r2) ∧ Fld Z h1 a1 "com/example/hindsight/hindsight/solvers/BucketQueue" "previous" "[I" (.ref r3) ∧ Fld Z h1 a1 "com/example/hindsight/hindsight/solvers/BucketQueue" "keyOf" "[I" (.ref r4) ∧ Fld Z h1 a1 "com/example/hindsight/hindsight/solvers/BucketQueue" "cursor" "I" (.int vc) ∧ Fld Z h1 a1 "com/example/hindsight/hindsight/solvers/BucketQueue" "size" "I" (.int w) ∧ (∀ t, Steps p.tables e below (T1.setTop (mkF m 0 #[.val (.ref a1)] [])) t → Steps p.tables e below (s₁.setTop (entryFrame m #[(.ref a1)] 1)) t)) (fun a => match a with | (T1, locs1, h1, vc) => z.toInt.toNat - vc.toInt.toNat) ?_ (s₁, _, _, c0) ⟨hc0, hlo, X0, e0, N0, Keep.refl _ _, F_a1_first, F_a1_next, F_a1_previous, F_a1_keyOf, F_a1_cursor, F_a1_size, pre0⟩
  rintro ⟨T1, locs1, h1, vc⟩ ⟨hv0, hv1, X1, e1, N1, Kl1, Lf1_0, Lf1_1, Lf1_2, Lf1_3, Lf1_4, Lf1_5, pre1⟩ ih1
  have K2 : Keep h0 h1 [a1] := (Keep.refl h0 [a1]).trans Kl1 (allS (Or.inl (List.mem_of_getElem? (i := 0) rfl)) all0)
  obtain ⟨T3, X3, e3, st3⟩ := getF X1 hx hZ hown (host := "") (Or.inl (hw _ (List.mem_of_getElem? (i := 15) rfl))) Via.refl e1 Lf1_0 (g := (mkF m 1 #[.val (.ref a1)] [(.ref a1)])) rfl rfl (hb hby d6_1)
  obtain ⟨T4, X4, e4, st4⟩ := getF X3 hx hZ hown (host := "") (Or.inl (hw _ (List.mem_of_getElem? (i := 32) rfl))) Via.refl e3 Lf1_4 (g := (mkF m 5 #[.val (.ref a1)] [(.ref a1), (.ref r1)])) rfl rfl (hb hby d6_5)
  have F6 := (V_r1.keep Kl1 (ninS (Ne.symm ne_a1_r1) nin0))
  obtain ⟨cl5, A5, S5, M5, G5⟩ := id F6
  have hin5 : ¬ (vc < 0 ∨ cl5.slots.size ≤ (vc).toNatClampNeg) := inb_of S5 (own_ij hv0 (own_lt hI hv1 hex))
  have hat5 : cl5.slots[(vc).toNatClampNeg]? = some (.int (f1 (vc).toNatClampNeg)) := AI.at S5 G5 hin5
  have pre7 : ∀ t, Steps p.tables e below (T4.setTop (mkF m 10 #[.val (.ref a1)] [(.int (-1 : Int32)), (.int (f1 (vc).toNatClampNeg))])) t → Steps p.tables e below (s₁.setTop (entryFrame m #[(.ref a1)] 1)) t := fun t k => pre1 t (by
    show Steps p.tables e below (T1.setTop (mkF m 0 #[.val (.ref a1)] [])) _
    refine XS.aloadN X1.here hx rfl (hb hby d6_0) rfl rfl ?_
    show Steps p.tables e below (T1.setTop (mkF m 1 #[.val (.ref a1)] [(.ref a1)])) _
    refine st3 _ ?_
    show Steps p.tables e below (T3.setTop (mkF m 4 #[.val (.ref a1)] [(.ref r1)])) _
    refine XS.aloadN X3.here hx rfl (hb hby d6_4) rfl rfl ?_
    show Steps p.tables e below (T3.setTop (mkF m 5 #[.val (.ref a1)] [(.ref a1), (.ref r1)])) _
    refine st4 _ ?_
    show Steps p.tables e below (T4.setTop (mkF m 8 #[.val (.ref a1)] [(.int vc), (.ref r1)])) _
    refine X4.iaload hx (j := vc) (v := (.int (f1 (vc).toNatClampNeg))) (by rw [e4]; exact A5.1) (State.isArrayOf_alike hZ.alike A5.2.1) A5.2.2 hin5 hat5 (g := (mkF m 8 #[.val (.ref a1)] [(.int vc), (.ref r1)])) rfl rfl (hb hby d6_8) _ ?_
    show Steps p.tables e below (T4.setTop (mkF m 9 #[.val (.ref a1)] [(.int (f1 (vc).toNatClampNeg))])) _
    refine XS.iconst X4.here hx rfl (hb hby d6_9) ?_
    exact k)
  by_cases hc8 : (f1 (vc).toNatClampNeg) = (-1 : Int32)
  · obtain ⟨T9, X9, e9, st9⟩ := getF X4 hx hZ hown (host := "") (Or.inl (hw _ (List.mem_of_getElem? (i := 32) rfl))) Via.refl e4 Lf1_4 (g := (mkF m 15 #[.val (.ref a1)] [(.ref a1), (.ref a1)])) rfl rfl (hb hby d6_15)
    have F11 := (E_a1.keep Kl1)
    obtain ⟨T10, h10, X10, e10, W10, st10⟩ := putF X9 hx hZ hown (host := "") (Or.inl (hw _ (List.mem_of_getElem? (i := 32) rfl))) Via.refl e9 Lf1_4 F11 (Or.inl (hw _ (List.mem_of_getElem? (i := 33) rfl))) (hw _ (List.mem_of_getElem? (i := 7) rfl)) (ty := .int) (by decide) rfl rfl (g := (mkF m 20 #[.val (.ref a1)] [(.int (vc + (1 : Int32))), (.ref a1)])) rfl rfl (hb hby d6_20)
    have Fw10 := Lf1_4.same W10
    have K10 : Keep h0 h10 [a1] := K2.wr W10 (Or.inl (List.mem_of_getElem? (i := 0) rfl))
    have N10 := Fr.snoc X10 N1 g_a1
    have pre12 : ∀ t, Steps p.tables e below (T10.setTop (mkF m 0 #[.val (.ref a1)] [])) t → Steps p.tables e below (s₁.setTop (entryFrame m #[(.ref a1)] 1)) t := fun t k => pre7 t (by
      show Steps p.tables e below (T4.setTop (mkF m 10 #[.val (.ref a1)] [(.int (-1 : Int32)), (.int (f1 (vc).toNatClampNeg))])) _
      refine XS.icmpNo X4.here hx rfl (hb hby d6_10) rfl (teq hc8).2 ?_
      show Steps p.tables e below (T4.setTop (mkF m 13 #[.val (.ref a1)] [])) _
      refine XS.aloadN X4.here hx rfl (hb hby d6_13) rfl rfl ?_
      show Steps p.tables e below (T4.setTop (mkF m 14 #[.val (.ref a1)] [(.ref a1)])) _
      refine XS.dup X4.here hx rfl (hb hby d6_14) rfl rfl ?_
      show Steps p.tables e below (T4.setTop (mkF m 15 #[.val (.ref a1)] [(.ref a1), (.ref a1)])) _
      refine st9 _ ?_
      show Steps p.tables e below (T9.setTop (mkF m 18 #[.val (.ref a1)] [(.int vc), (.ref a1)])) _
      refine XS.iconst X9.here hx rfl (hb hby d6_18) ?_
      show Steps p.tables e below (T9.setTop (mkF m 19 #[.val (.ref a1)] [(.int (1 : Int32)), (.int vc), (.ref a1)])) _
      refine XS.iadd X9.here hx rfl (hb hby d6_19) rfl ?_
      show Steps p.tables e below (T9.setTop (mkF m 20 #[.val (.ref a1)] [(.int (vc + (1 : Int32))), (.ref a1)])) _
      refine st10 _ ?_
      show Steps p.tables e below (T10.setTop (mkF m 23 #[.val (.ref a1)] [])) _
      refine XS.goto X10.here hx rfl (pc0 := 23) (pc' := 0) rfl (hb hby d6_23) (by decide) (by decide) ?_
      exact k)
    have F13 := (Lf1_0.other W10 (Or.inr (slot_ne (Or.inr (hw _ (List.mem_of_getElem? (i := 16) rfl))) (Or.inl (hw _ (List.mem_of_getElem? (i := 33) rfl))) (by decide) (t := (.array .int)) (t' := .int) (by decide) (by decide))))
    have F14 := (Lf1_1.other W10 (Or.inr (slot_ne (Or.inr (hw _ (List.mem_of_getElem? (i := 18) rfl))) (Or.inl (hw _ (List.mem_of_getElem? (i := 33) rfl))) (by decide) (t := (.array .int)) (t' := .int) (by decide) (by decide))))
    have F15 := (Lf1_2.other W10 (Or.inr (slot_ne (Or.inr (hw _ (List.mem_of_getElem? (i := 20) rfl))) (Or.inl (hw _ (List.mem_of_getElem? (i := 33) rfl))) (by decide) (t := (.array .int)) (t' := .int) (by decide) (by decide))))
    have F16 := (Lf1_3.other W10 (Or.inr (slot_ne (Or.inr (hw _ (List.mem_of_getElem? (i := 22) rfl))) (Or.inl (hw _ (List.mem_of_getElem? (i := 33) rfl))) (by decide) (t := (.array .int)) (t' := .int) (by decide) (by decide))))
    have F17 := (Lf1_5.other W10 (Or.inr (slot_ne (Or.inl (hw _ (List.mem_of_getElem? (i := 35) rfl))) (Or.inl (hw _ (List.mem_of_getElem? (i := 33) rfl))) (by decide) (t := .int) (t' := .int) (by decide) (by decide))))
    exact ih1 (T10, _, _, (vc + (1 : Int32))) ⟨(by rw [own_p1z hv0 (own_lt hI hv1 hex)]; omega), (fun i hi hw => by rw [own_p1z hv0 (own_lt hI hv1 hex)]; exact own_next hI hv0 hv1 hc8 i hi hw), X10, e10, N10, ((Kl1.wr W10 (Or.inl (List.mem_of_getElem? (i := 0) rfl)))), F13, F14, F15, F16, Fw10, F17, fun t k => pre12 t k⟩ ((by show z.toInt.toNat - (vc + 1).toInt.toNat < z.toInt.toNat - vc.toInt.toNat; have h := Int32.lt_iff_toInt_lt.mp (own_lt hI hv1 hex); rw [own_p1z hv0 (own_lt hI hv1 hex)]; omega))
  · obtain ⟨T18, X18, e18, st18⟩ := getF X4 hx hZ hown (host := "") (Or.inl (hw _ (List.mem_of_getElem? (i := 32) rfl))) Via.refl e4 Lf1_4 (g := (mkF m 27 #[.val (.ref a1)] [(.ref a1)])) rfl rfl (hb hby d6_27)
    obtain ⟨fs, hr, hrun, hended, hW, hsame⟩ := X18.leave (v := some (.int vc)) (fun h => by rw [Bd.returns] at h; cases h) hlk
    refine ⟨_, _, pre7 _ ?_, hrun, hended, _, _, rfl, ?_, ⟨_, rfl⟩, hW, hsame.mono (by decide) (by decide)⟩
    · show Steps p.tables e below (T4.setTop (mkF m 10 #[.val (.ref a1)] [(.int (-1 : Int32)), (.int (f1 (vc).toNatClampNeg))])) _
      refine XS.icmpYes X4.here hx rfl (pc0 := 10) (pc' := 26) rfl (hb hby d6_10) rfl (feq hc8).2 (by decide) (by decide) ?_
      show Steps p.tables e below (T4.setTop (mkF m 26 #[.val (.ref a1)] [])) _
      refine XS.aloadN X4.here hx rfl (hb hby d6_26) rfl rfl ?_
      show Steps p.tables e below (T4.setTop (mkF m 27 #[.val (.ref a1)] [(.ref a1)])) _
      refine st18 _ ?_
      show Steps p.tables e below (T18.setTop (mkF m 30 #[.val (.ref a1)] [(.int vc)])) _
      exact retI X18 hx Bd.returns (hb hby d6_30) hr
    · show Q6 Z a1 r1 r2 r3 r4 z w c0 f1 f2 f3 f4 h0 n0 _ T18.heap _
      rw [e18]
      exact ⟨vc, rfl, N1, K2, Lf1_0, Lf1_1, Lf1_2, Lf1_3, Lf1_4, Lf1_5, (own_got hI hv0 (own_lt hI hv1 hex) hc8), hv1, ⟨hv0, Int32.lt_iff_toInt_lt.mp (own_lt hI hv1 hex)⟩, hc8⟩
theorem d7_0 : decode prog_46_method_7_code 0 = .ok (.aload_n 0, 1) := by decide +kernel
theorem d7_1 : decode prog_46_method_7_code 1 = .ok (.getfield 7, 3) := by decide +kernel
theorem d7_4 : decode prog_46_method_7_code 4 = .ok (.aload_n 0, 1) := by decide +kernel
theorem d7_5 : decode prog_46_method_7_code 5 = .ok (.invokevirtual 55, 3) := by decide +kernel
theorem pd_1 : parseMethodDescriptor "()I" = some ⟨[], some .int⟩ := by decide +kernel
theorem d7_8 : decode prog_46_method_7_code 8 = .ok (.iaload, 1) := by decide +kernel
theorem d7_9 : decode prog_46_method_7_code 9 = .ok (.istore_n 1, 1) := by decide +kernel
theorem d7_10 : decode prog_46_method_7_code 10 = .ok (.aload_n 0, 1) := by decide +kernel
theorem d7_11 : decode prog_46_method_7_code 11 = .ok (.iload_n 1, 1) := by decide +kernel
theorem d7_12 : decode prog_46_method_7_code 12 = .ok (.aload_n 0, 1) := by decide +kernel
theorem d7_13 : decode prog_46_method_7_code 13 = .ok (.getfield 36, 3) := by decide +kernel
theorem d7_16 : decode prog_46_method_7_code 16 = .ok (.invokevirtual 51, 3) := by decide +kernel
theorem pd_2 : parseMethodDescriptor "(II)V" = some ⟨[.int, .int], none⟩ := by decide +kernel
theorem d7_19 : decode prog_46_method_7_code 19 = .ok (.aload_n 0, 1) := by decide +kernel
theorem d7_20 : decode prog_46_method_7_code 20 = .ok (.dup, 1) := by decide +kernel
theorem d7_21 : decode prog_46_method_7_code 21 = .ok (.getfield 28, 3) := by decide +kernel
theorem d7_24 : decode prog_46_method_7_code 24 = .ok (.iconst 1, 1) := by decide +kernel
theorem d7_25 : decode prog_46_method_7_code 25 = .ok (.isub, 1) := by decide +kernel
theorem d7_26 : decode prog_46_method_7_code 26 = .ok (.putfield 28, 3) := by decide +kernel
theorem d7_29 : decode prog_46_method_7_code 29 = .ok (.iload_n 1, 1) := by decide +kernel
theorem d7_30 : decode prog_46_method_7_code 30 = .ok (.ireturn, 1) := by decide +kernel
theorem ef_7 (m : MethodId) (x0 : Addr) : entryFrame m #[(.ref x0)] 2 = mkF m 0 #[.val (.ref x0), .unset] [] := by first | (simp [entryFrame, mkF, argsToLocals, Value.category]; done) | rfl
def Q7 (Z : State) (a1 : Addr) (r1 : Addr) (r2 : Addr) (r3 : Addr) (r4 : Addr) (z : Int32) (w : Int32) (c0 : Int32) (f1 : Nat → Int32) (f2 : Nat → Int32) (f3 : Nat → Int32) (f4 : Nat → Int32) (h0 : Heap) (n0 : Nat) (v : Option Value) (h : Heap) (L : List Loc) : Prop := ∃ mv : Int32, ∃ g1 : Nat → Int32, ∃ g2 : Nat → Int32, ∃ g3 : Nat → Int32, ∃ g4 : Nat → Int32, v = some (.int (f1 mv.toNatClampNeg)) ∧ Fr n0 L ∧ Keep h0 h [a1, r1, r2, r3, r4] ∧ Fld Z h a1 "com/example/hindsight/hindsight/solvers/BucketQueue" "first" "[I" (.ref r1) ∧ Fld Z h a1 "com/example/hindsight/hindsight/solvers/BucketQueue" "next" "[I" (.ref r2) ∧ Fld Z h a1 "com/example/hindsight/hindsight/solvers/BucketQueue" "previous" "[I" (.ref r3) ∧ Fld Z h a1 "com/example/hindsight/hindsight/solvers/BucketQueue" "keyOf" "[I" (.ref r4) ∧ Fld Z h a1 "com/example/hindsight/hindsight/solvers/BucketQueue" "cursor" "I" (.int mv) ∧ Fld Z h a1 "com/example/hindsight/hindsight/solvers/BucketQueue" "size" "I" (.int (w - (1 : Int32))) ∧ AI Z h r1 .int z g1 ∧ AI Z h r2 .int (3 : Int32) g2 ∧ AI Z h r3 .int (3 : Int32) g3 ∧ AI Z h r4 .int (3 : Int32) g4 ∧ (own_inv z g1 g2 g3 g4) ∧ (∃ n, n < 3 ∧ f4 n = mv ∧ ∀ j, g4 j = if j = n then (-1 : Int32) else f4 j) ∧ (∀ i, i < 3 → f4 i ≠ -1 → mv.toInt ≤ (f4 i).toInt) ∧ (0 ≤ mv.toInt ∧ mv.toInt < z.toInt)
set_option maxRecDepth 65536 in
set_option maxHeartbeats 40000000 in
theorem rm7 (l : Launch) (Z : State) (a0 : Array Value) (hw : ∀ d ∈ tables_1, d.before a0 Z = true) (ws : List Jvm.Cond) (a1 : Addr) (r1 : Addr) (r2 : Addr) (r3 : Addr) (r4 : Addr) (z : Int32) (w : Int32) (c0 : Int32) (f1 : Nat → Int32) (f2 : Nat → Int32) (f3 : Nat → Int32) (f4 : Nat → Int32) (h0 : Heap) (n0 : Nat) (Z0 : n0 ≤ h0.size) (E_a1 : Exa Z h0 a1 "com/example/hindsight/hindsight/solvers/BucketQueue") (F_a1_first : Fld Z h0 a1 "com/example/hindsight/hindsight/solvers/BucketQueue" "first" "[I" (.ref r1)) (F_a1_next : Fld Z h0 a1 "com/example/hindsight/hindsight/solvers/BucketQueue" "next" "[I" (.ref r2)) (F_a1_previous : Fld Z h0 a1 "com/example/hindsight/hindsight/solvers/BucketQueue" "previous" "[I" (.ref r3)) (F_a1_keyOf : Fld Z h0 a1 "com/example/hindsight/hindsight/solvers/BucketQueue" "keyOf" "[I" (.ref r4)) (F_a1_cursor : Fld Z h0 a1 "com/example/hindsight/hindsight/solvers/BucketQueue" "cursor" "I" (.int c0)) (F_a1_size : Fld Z h0 a1 "com/example/hindsight/hindsight/solvers/BucketQueue" "size" "I" (.int w)) (V_r1 : AI Z h0 r1 .int z f1) (V_r2 : AI Z h0 r2 .int (3 : Int32) f2) (V_r3 : AI Z h0 r3 .int (3 : Int32) f3) (V_r4 : AI Z h0 r4 .int (3 : Int32) f4) (g_a1 : n0 ≤ a1) (g_r1 : n0 ≤ r1) (g_r2 : n0 ≤ r2) (g_r3 : n0 ≤ r3) (g_r4 : n0 ≤ r4) (ne_a1_r1 : a1 ≠ r1) (ne_a1_r2 : a1 ≠ r2) (ne_a1_r3 : a1 ≠ r3) (ne_a1_r4 : a1 ≠ r4) (ne_r1_r2 : r1 ≠ r2) (ne_r1_r3 : r1 ≠ r3) (ne_r1_r4 : r1 ≠ r4) (ne_r2_r3 : r2 ≠ r3) (ne_r2_r4 : r2 ≠ r4) (ne_r3_r4 : r3 ≠ r4) (hI : own_inv z f1 f2 f3 f4) (hlo : ∀ i, i < 3 → f4 i ≠ -1 → c0.toInt ≤ (f4 i).toInt) (hex : ∃ i, i < 3 ∧ f4 i ≠ -1) (hc0 : 0 ≤ c0.toInt) :
    MetFree l (⟨"com/example/hindsight/hindsight/solvers/BucketQueue", "popMin", "()I"⟩ : MethodName) (head1 (Jvm.Cond.code (⟨"com/example/hindsight/hindsight/solvers/BucketQueue", "popMin", "()I"⟩ : MethodName) prog_46_method_7_code 2 (some .int) :: ws) ({ frames := 1, cells := 0, slots := 0, locals := 16 } : Room)) (fun a U => a = #[(.ref a1)] ∧ Z.Warmed39 U.vm ∧ U.heap = h0) (fun _ _ _ _ _ => True) (fun _ U o U' => ∃ v L, o = .returned v ∧ Q7 Z a1 r1 r2 r3 r4 z w c0 f1 f2 f3 f4 h0 n0 v U'.heap L ∧ FrameEnd U o U' L ({ frames := 1, cells := 0, slots := 0, locals := 16 } : Room).cells ({ frames := 1, cells := 0, slots := 0, locals := 16 } : Room).slots) := by
  refine MetFree.of_bodySF (plainFor_of_name pn_2) hisR ?_
  intro p e s m args below meth c s₁ Bd hml0 hP hK
  obtain ⟨rfl, hZ, hh⟩ := hP
  have hx := Bd.exec
  have hlk : meth.locks = false := by first | exact BodyLoose.notSynchronized Bd | exact Body.notSynchronized Bd
  have hby := Bd.bytes
  have hml : c.maxLocals = 2 := hml0
  have hown : s.vm.findClass "com/example/hindsight/hindsight/solvers/BucketQueue" = some m.cls := findClass_of_methodNamed Bd.named
  have hnm := (name_of_methodNamed Bd.named Bd.method).1
  have X0 : Stand p l e ({ frames := 1, cells := 0, slots := 0, locals := 16 } : Room) s m #[(.ref a1)] below meth c s₁ [] 0 0 := Stand.of_body Bd
  have e0 : s₁.heap = h0 := by rw [← hh, Bd.state]; rfl
  have N0 := Fr.nil n0
  have pre0 : ∀ t, Steps p.tables e below (s₁.setTop (mkF m 0 #[.val (.ref a1), .unset] [])) t → Steps p.tables e below (s₁.setTop (entryFrame m #[(.ref a1)] 2)) t := fun t k => castTop (ef_7 m a1) k
  obtain ⟨T1, X1, e1, st1⟩ := getF X0 hx hZ hown (host := "") (Or.inl (hw _ (List.mem_of_getElem? (i := 15) rfl))) Via.refl e0 F_a1_first (g := (mkF m 1 #[.val (.ref a1), .unset] [(.ref a1)])) rfl rfl (hb hby d7_1)
  obtain ⟨cq2, kq2, q2a, q2b, q2c⟩ := isOf hZ e1 E_a1
  obtain ⟨_, _, ⟨T2, L2, k2, n2⟩, -, X2, ⟨Lc2, hQ2, l2, y2, z2⟩, st2⟩ := X1.virtualBack hx (y := (⟨"com/example/hindsight/hindsight/solvers/BucketQueue", "minKey", "()I"⟩ : MethodName)) (z := (⟨"com/example/hindsight/hindsight/solvers/BucketQueue", "minKey", "()I"⟩ : MethodName)) hown (mvT hZ (hw _ (List.mem_of_getElem? (i := 46) rfl))) (mvT hZ (hw _ (List.mem_of_getElem? (i := 37) rfl))) (notFace_of_selects (args := #[]) (mvT hZ (hw _ (List.mem_of_getElem? (i := 39) rfl)))) (mvT hZ (hw _ (List.mem_of_getElem? (i := 39) rfl))) (mvT hZ (hw _ (List.mem_of_getElem? (i := 38) rfl))) (by decide) (backOf (W := 1) (rm6 l Z a0 hw [] a1 r1 r2 r3 r4 z w c0 f1 f2 f3 f4 h0 n0 Z0 E_a1 F_a1_first F_a1_next F_a1_previous F_a1_keyOf F_a1_cursor F_a1_size V_r1 V_r2 V_r3 V_r4 g_a1 g_r1 g_r2 g_r3 g_r4 ne_a1_r1 ne_a1_r2 ne_a1_r3 ne_a1_r4 ne_r1_r2 ne_r1_r3 ne_r1_r4 ne_r2_r3 ne_r2_r4 ne_r3_r4 (by assumption : own_inv z f1 f2 f3 f4) (by assumption : ∀ i, i < 3 → f4 i ≠ -1 → c0.toInt ≤ (f4 i).toInt) (by assumption : ∃ i, i < 3 ∧ f4 i ≠ -1) (by assumption : 0 ≤ c0.toInt)) hZ (hw _ (List.mem_of_getElem? (i := 40) rfl)) (hw _ (List.mem_of_getElem? (i := 8) rfl)) (by decide) (by decide)) q2a q2c (g := (mkF m 5 #[.val (.ref a1), .unset] [(.ref a1), (.ref r1)])) rfl (by rw [hml]; rfl) (Steps.refl _) (argsL := []) (rest := [(.ref r1)]) (lenOf pd_1 rfl) rfl (by show 2 * 0 + _ ≤ _; exact Nat.le_of_eq rfl) (hb hby d7_5) (fun _ _ => ⟨rfl, e1, (by decide : 0 + 0 ≤ _), (by decide : 0 + 0 ≤ _)⟩)
  dsimp only [Pt.U, Pt.locs, Pt.cells, Pt.slots] at X2 l2 y2 z2 st2 hQ2
  first | rw [l2, y2, z2] at X2 | subst l2 y2 z2
  obtain ⟨mv_2, rfl, N2q, K2, P2_0, P2_1, P2_2, P2_3, P2_4, P2_5, P2_6, P2_7, P2_8, P2_9⟩ := hQ2
  have K3 : Keep h0 T2.heap [a1, r1, r2, r3, r4] := (Keep.refl h0 [a1, r1, r2, r3, r4]).trans K2 (allS (Or.inl (List.mem_of_getElem? (i := 0) rfl)) all0)
  have N2 := Fr.app N0 N2q
  have F5 := (V_r1.keep K2 (ninS (Ne.symm ne_a1_r1) nin0))
  obtain ⟨cl4, A4, S4, M4, G4⟩ := id F5
  have hin4 : ¬ (mv_2 < 0 ∨ cl4.slots.size ≤ (mv_2).toNatClampNeg) := inb_of S4 (own_ij2 P2_8)
  have hat4 : cl4.slots[(mv_2).toNatClampNeg]? = some (.int (f1 (mv_2).toNatClampNeg)) := AI.at S4 G4 hin4
  obtain ⟨T6, X6, e6, st6⟩ := getF X2 hx hZ hown (host := "") (Or.inl (hw _ (List.mem_of_getElem? (i := 32) rfl))) Via.refl rfl P2_4 (g := (mkF m 13 #[.val (.ref a1), .val (.int (f1 (mv_2).toNatClampNeg))] [(.ref a1), (.int (f1 (mv_2).toNatClampNeg)), (.ref a1)])) rfl rfl (hb hby d7_13)
  have F7 := (E_a1.keep K2)
  have F8 := (V_r2.keep K2 (ninS (Ne.symm ne_a1_r2) nin0))
  have F9 := (V_r3.keep K2 (ninS (Ne.symm ne_a1_r3) nin0))
  have F10 := (V_r4.keep K2 (ninS (Ne.symm ne_a1_r4) nin0))
  obtain ⟨cq11, q11, q11'⟩ := F7.cell
  obtain ⟨_, _, ⟨T11, L11, k11, n11⟩, -, X11, ⟨Lc11, hQ11, l11, y11, z11⟩, st11⟩ := X6.privateBack hx (y := (⟨"com/example/hindsight/hindsight/solvers/BucketQueue", "unlink", "(II)V"⟩ : MethodName)) hown (mvT hZ (hw _ (List.mem_of_getElem? (i := 47) rfl))) (mvT hZ (hw _ (List.mem_of_getElem? (i := 48) rfl))) (own_selp (y0 := (⟨"com/example/hindsight/hindsight/solvers/BucketQueue", "offer", "(II)V"⟩ : MethodName)) (mvT hZ (hw _ (List.mem_of_getElem? (i := 30) rfl))) rfl (Cond.privateMethod_at (mvP hZ (hw _ (List.mem_of_getElem? (i := 49) rfl)) (args := #[]))) (mvT hZ (hw _ (List.mem_of_getElem? (i := 48) rfl))) (by decide)) (Cond.privateMethod_at (mvP hZ (hw _ (List.mem_of_getElem? (i := 49) rfl)) (args := #[]))) (mvT hZ (hw _ (List.mem_of_getElem? (i := 50) rfl))) (by decide) (backOf (W := 0) (rm8 l Z a0 hw [] a1 (f1 (mv_2).toNatClampNeg) mv_2 r1 r2 r3 r4 z w mv_2 f1 f2 f3 f4 (T2.heap) n0 (Nat.le_trans Z0 K3.1) F7 P2_0 P2_1 P2_2 P2_3 P2_4 P2_5 F5 F8 F9 F10 g_a1 g_r1 g_r2 g_r3 g_r4 ne_a1_r1 ne_a1_r2 ne_a1_r3 ne_a1_r4 ne_r1_r2 ne_r1_r3 ne_r1_r4 ne_r2_r3 ne_r2_r4 ne_r3_r4 (by assumption : own_inv z f1 f2 f3 f4) ((own_hd hI P2_8.1 P2_8.2 P2_9).1) ((own_hd hI P2_8.1 P2_8.2 P2_9).2) (fun h => by have q := P2_8; rw [h] at q; exact absurd q.1 (by decide))) hZ (hw _ (List.mem_of_getElem? (i := 50) rfl)) (hw _ (List.mem_of_getElem? (i := 8) rfl)) (by decide) (by decide)) (g := (mkF m 16 #[.val (.ref a1), .val (.int (f1 (mv_2).toNatClampNeg))] [(.int mv_2), (.int (f1 (mv_2).toNatClampNeg)), (.ref a1)])) rfl (by rw [hml]; rfl) (Steps.refl _) (a := a1) (by rw [e6]; exact q11) q11' (argsL := [(.int (f1 (mv_2).toNatClampNeg)), (.int mv_2)]) (rest := []) (lenOf pd_2 rfl) rfl (by show 2 * 0 + _ ≤ _; exact Nat.le_of_eq rfl) (hb hby d7_16) (fun _ _ => ⟨rfl, e6, (by decide : 0 + 0 ≤ _), (by decide : 0 + 0 ≤ _)⟩)
  dsimp only [Pt.U, Pt.locs, Pt.cells, Pt.slots] at X11 l11 y11 z11 st11 hQ11
  first | rw [l11, y11, z11] at X11 | subst l11 y11 z11
  obtain ⟨g1_11, g2_11, g3_11, g4_11, rfl, N11q, K11, P11_0, P11_1, P11_2, P11_3, P11_4, P11_5⟩ := hQ11
  have K12 : Keep h0 T11.heap [a1, r1, r2, r3, r4] := K3.trans K11 (allS (Or.inl (List.mem_of_getElem? (i := 1) rfl)) (allS (Or.inl (List.mem_of_getElem? (i := 2) rfl)) (allS (Or.inl (List.mem_of_getElem? (i := 3) rfl)) (allS (Or.inl (List.mem_of_getElem? (i := 4) rfl)) all0))))
  have N11 := Fr.app N2 N11q
  have F14 := (P2_5.keep K11 (ninS ne_a1_r1 (ninS ne_a1_r2 (ninS ne_a1_r3 (ninS ne_a1_r4 nin0)))))
  obtain ⟨T13, X13, e13, st13⟩ := getF X11 hx hZ hown (host := "") (Or.inl (hw _ (List.mem_of_getElem? (i := 34) rfl))) Via.refl rfl F14 (g := (mkF m 21 #[.val (.ref a1), .val (.int (f1 (mv_2).toNatClampNeg))] [(.ref a1), (.ref a1)])) rfl rfl (hb hby d7_21)
  have F16 := (F7.keep K11)
  obtain ⟨T15, h15, X15, e15, W15, st15⟩ := putF X13 hx hZ hown (host := "") (Or.inl (hw _ (List.mem_of_getElem? (i := 34) rfl))) Via.refl e13 F14 F16 (Or.inl (hw _ (List.mem_of_getElem? (i := 35) rfl))) (hw _ (List.mem_of_getElem? (i := 7) rfl)) (ty := .int) (by decide) rfl rfl (g := (mkF m 26 #[.val (.ref a1), .val (.int (f1 (mv_2).toNatClampNeg))] [(.int (w - (1 : Int32))), (.ref a1)])) rfl rfl (hb hby d7_26)
  have Fw15 := F14.same W15
  have K15 : Keep h0 h15 [a1, r1, r2, r3, r4] := K12.wr W15 (Or.inl (List.mem_of_getElem? (i := 0) rfl))
  have N15 := Fr.snoc X15 N11 g_a1
  obtain ⟨fs, hr, hrun, hended, hW, hsame⟩ := X15.leave (v := some (.int (f1 (mv_2).toNatClampNeg))) (fun h => by rw [Bd.returns] at h; cases h) hlk
  refine ⟨_, _, pre0 _ ?_, hrun, hended, _, _, rfl, ?_, ⟨_, rfl⟩, hW, hsame.mono (by decide) (by decide)⟩
  · show Steps p.tables e below (s₁.setTop (mkF m 0 #[.val (.ref a1), .unset] [])) _
    refine XS.aloadN X0.here hx rfl (hb hby d7_0) rfl rfl ?_
    show Steps p.tables e below (s₁.setTop (mkF m 1 #[.val (.ref a1), .unset] [(.ref a1)])) _
    refine st1 _ ?_
    show Steps p.tables e below (T1.setTop (mkF m 4 #[.val (.ref a1), .unset] [(.ref r1)])) _
    refine XS.aloadN X1.here hx rfl (hb hby d7_4) rfl rfl ?_
    show Steps p.tables e below (T1.setTop (mkF m 5 #[.val (.ref a1), .unset] [(.ref a1), (.ref r1)])) _
    refine st2.trans ?_
    show Steps p.tables e below (T2.setTop (mkF m 8 #[.val (.ref a1), .unset] [(.int mv_2), (.ref r1)])) _
    refine X2.iaload hx (j := mv_2) (v := (.int (f1 (mv_2).toNatClampNeg))) (by exact A4.1) (State.isArrayOf_alike hZ.alike A4.2.1) A4.2.2 hin4 hat4 (g := (mkF m 8 #[.val (.ref a1), .unset] [(.int mv_2), (.ref r1)])) rfl rfl (hb hby d7_8) _ ?_
    show Steps p.tables e below (T2.setTop (mkF m 9 #[.val (.ref a1), .unset] [(.int (f1 (mv_2).toNatClampNeg))])) _
    refine XS.istoreN X2.here hx rfl (hb hby d7_9) rfl (l' := #[.val (.ref a1), .val (.int (f1 (mv_2).toNatClampNeg))]) rfl ?_
    show Steps p.tables e below (T2.setTop (mkF m 10 #[.val (.ref a1), .val (.int (f1 (mv_2).toNatClampNeg))] [])) _
    refine XS.aloadN X2.here hx rfl (hb hby d7_10) rfl rfl ?_
    show Steps p.tables e below (T2.setTop (mkF m 11 #[.val (.ref a1), .val (.int (f1 (mv_2).toNatClampNeg))] [(.ref a1)])) _
    refine XS.iloadN X2.here hx rfl (hb hby d7_11) rfl ?_
    show Steps p.tables e below (T2.setTop (mkF m 12 #[.val (.ref a1), .val (.int (f1 (mv_2).toNatClampNeg))] [(.int (f1 (mv_2).toNatClampNeg)), (.ref a1)])) _
    refine XS.aloadN X2.here hx rfl (hb hby d7_12) rfl rfl ?_
    show Steps p.tables e below (T2.setTop (mkF m 13 #[.val (.ref a1), .val (.int (f1 (mv_2).toNatClampNeg))] [(.ref a1), (.int (f1 (mv_2).toNatClampNeg)), (.ref a1)])) _
    refine st6 _ ?_
    show Steps p.tables e below (T6.setTop (mkF m 16 #[.val (.ref a1), .val (.int (f1 (mv_2).toNatClampNeg))] [(.int mv_2), (.int (f1 (mv_2).toNatClampNeg)), (.ref a1)])) _
    refine st11.trans ?_
    show Steps p.tables e below (T11.setTop (mkF m 19 #[.val (.ref a1), .val (.int (f1 (mv_2).toNatClampNeg))] [])) _
    refine XS.aloadN X11.here hx rfl (hb hby d7_19) rfl rfl ?_
    show Steps p.tables e below (T11.setTop (mkF m 20 #[.val (.ref a1), .val (.int (f1 (mv_2).toNatClampNeg))] [(.ref a1)])) _
    refine XS.dup X11.here hx rfl (hb hby d7_20) rfl rfl ?_
    show Steps p.tables e below (T11.setTop (mkF m 21 #[.val (.ref a1), .val (.int (f1 (mv_2).toNatClampNeg))] [(.ref a1), (.ref a1)])) _
    refine st13 _ ?_
    show Steps p.tables e below (T13.setTop (mkF m 24 #[.val (.ref a1), .val (.int (f1 (mv_2).toNatClampNeg))] [(.int w), (.ref a1)])) _
    refine XS.iconst X13.here hx rfl (hb hby d7_24) ?_
    show Steps p.tables e below (T13.setTop (mkF m 25 #[.val (.ref a1), .val (.int (f1 (mv_2).toNatClampNeg))] [(.int (1 : Int32)), (.int w), (.ref a1)])) _
    refine XS.isub X13.here hx rfl (hb hby d7_25) rfl ?_
    show Steps p.tables e below (T13.setTop (mkF m 26 #[.val (.ref a1), .val (.int (f1 (mv_2).toNatClampNeg))] [(.int (w - (1 : Int32))), (.ref a1)])) _
    refine st15 _ ?_
    show Steps p.tables e below (T15.setTop (mkF m 29 #[.val (.ref a1), .val (.int (f1 (mv_2).toNatClampNeg))] [])) _
    refine XS.iloadN X15.here hx rfl (hb hby d7_29) rfl ?_
    show Steps p.tables e below (T15.setTop (mkF m 30 #[.val (.ref a1), .val (.int (f1 (mv_2).toNatClampNeg))] [(.int (f1 (mv_2).toNatClampNeg))])) _
    exact retI X15 hx Bd.returns (hb hby d7_30) hr
  · show Q7 Z a1 r1 r2 r3 r4 z w c0 f1 f2 f3 f4 h0 n0 _ T15.heap _
    rw [e15]
    have F18 := ((P2_0.keep K11 (ninS ne_a1_r1 (ninS ne_a1_r2 (ninS ne_a1_r3 (ninS ne_a1_r4 nin0))))).other W15 (Or.inr (slot_ne (Or.inr (hw _ (List.mem_of_getElem? (i := 16) rfl))) (Or.inl (hw _ (List.mem_of_getElem? (i := 35) rfl))) (by decide) (t := (.array .int)) (t' := .int) (by decide) (by decide))))
    have F19 := ((P2_1.keep K11 (ninS ne_a1_r1 (ninS ne_a1_r2 (ninS ne_a1_r3 (ninS ne_a1_r4 nin0))))).other W15 (Or.inr (slot_ne (Or.inr (hw _ (List.mem_of_getElem? (i := 18) rfl))) (Or.inl (hw _ (List.mem_of_getElem? (i := 35) rfl))) (by decide) (t := (.array .int)) (t' := .int) (by decide) (by decide))))
    have F20 := ((P2_2.keep K11 (ninS ne_a1_r1 (ninS ne_a1_r2 (ninS ne_a1_r3 (ninS ne_a1_r4 nin0))))).other W15 (Or.inr (slot_ne (Or.inr (hw _ (List.mem_of_getElem? (i := 20) rfl))) (Or.inl (hw _ (List.mem_of_getElem? (i := 35) rfl))) (by decide) (t := (.array .int)) (t' := .int) (by decide) (by decide))))
    have F21 := ((P2_3.keep K11 (ninS ne_a1_r1 (ninS ne_a1_r2 (ninS ne_a1_r3 (ninS ne_a1_r4 nin0))))).other W15 (Or.inr (slot_ne (Or.inr (hw _ (List.mem_of_getElem? (i := 22) rfl))) (Or.inl (hw _ (List.mem_of_getElem? (i := 35) rfl))) (by decide) (t := (.array .int)) (t' := .int) (by decide) (by decide))))
    have F22 := ((P2_4.keep K11 (ninS ne_a1_r1 (ninS ne_a1_r2 (ninS ne_a1_r3 (ninS ne_a1_r4 nin0))))).other W15 (Or.inr (slot_ne (Or.inl (hw _ (List.mem_of_getElem? (i := 33) rfl))) (Or.inl (hw _ (List.mem_of_getElem? (i := 35) rfl))) (by decide) (t := .int) (t' := .int) (by decide) (by decide))))
    have F23 := (P11_0.other W15 (Ne.symm ne_a1_r1))
    have F24 := (P11_1.other W15 (Ne.symm ne_a1_r2))
    have F25 := (P11_2.other W15 (Ne.symm ne_a1_r3))
    have F26 := (P11_3.other W15 (Ne.symm ne_a1_r4))
    exact ⟨mv_2, g1_11, g2_11, g3_11, g4_11, rfl, N15, K15, F18, F19, F20, F21, F22, Fw15, F23, F24, F25, F26, P11_4, ⟨_, (own_range (own_hd hI P2_8.1 P2_8.2 P2_9).1).1, (own_hd hI P2_8.1 P2_8.2 P2_9).2, P11_5⟩, P2_7, P2_8⟩

theorem own_off3 {g4 f4 : Nat → Int32} {p k : Int32} (h4 : ∀ j, g4 j = if j = p.toNatClampNeg then (-1 : Int32) else f4 j) (h : k < f4 p.toNatClampNeg) (i : Nat) : (fun i => if i = p.toNatClampNeg then k else g4 i) i = noteF f4 p k i := by
  rw [← own_noteY f4 p k (Or.inr h) i]
  show (if i = p.toNatClampNeg then k else g4 i) = if i = p.toNatClampNeg then k else f4 i
  by_cases q : i = p.toNatClampNeg
  · rw [if_pos q, if_pos q]
  · rw [if_neg q, if_neg q, h4, if_neg q]
theorem own_nneg {z : Int32} {f1 f2 f3 f4 : Nat → Int32} (I : own_inv z f1 f2 f3 f4) {i : Nat} (hi : i < 3) (hw : ¬ f4 i = -1) : ¬ f4 i < 0 := fun h => by
  have h1 := own_inr I hi hw
  have h2 : (f4 i).toInt < 0 := Int32.lt_iff_toInt_lt.mp h
  omega

theorem d5_0 : decode prog_46_method_5_code 0 = .ok (.iload_n 2, 1) := by decide +kernel
theorem d5_1 : decode prog_46_method_5_code 1 = .ok (.aload_n 0, 1) := by decide +kernel
theorem d5_2 : decode prog_46_method_5_code 2 = .ok (.getfield 36, 3) := by decide +kernel
theorem d5_5 : decode prog_46_method_5_code 5 = .ok (.if_icmp .lt 12, 3) := by decide +kernel
theorem d5_8 : decode prog_46_method_5_code 8 = .ok (.iload_n 2, 1) := by decide +kernel
theorem d5_9 : decode prog_46_method_5_code 9 = .ok (.aload_n 0, 1) := by decide +kernel
theorem d5_10 : decode prog_46_method_5_code 10 = .ok (.getfield 7, 3) := by decide +kernel
theorem d5_13 : decode prog_46_method_5_code 13 = .ok (.arraylength, 1) := by decide +kernel
theorem d5_14 : decode prog_46_method_5_code 14 = .ok (.if_icmp .lt 25, 3) := by decide +kernel
theorem d5_39 : decode prog_46_method_5_code 39 = .ok (.aload_n 0, 1) := by decide +kernel
theorem d5_40 : decode prog_46_method_5_code 40 = .ok (.getfield 19, 3) := by decide +kernel
theorem d5_43 : decode prog_46_method_5_code 43 = .ok (.iload_n 1, 1) := by decide +kernel
theorem d5_44 : decode prog_46_method_5_code 44 = .ok (.iaload, 1) := by decide +kernel
theorem d5_45 : decode prog_46_method_5_code 45 = .ok (.istore_n 3, 1) := by decide +kernel
theorem d5_46 : decode prog_46_method_5_code 46 = .ok (.iload_n 3, 1) := by decide +kernel
theorem d5_47 : decode prog_46_method_5_code 47 = .ok (.iconst (-1), 1) := by decide +kernel
theorem d5_48 : decode prog_46_method_5_code 48 = .ok (.if_icmp .eq 25, 3) := by decide +kernel
theorem d5_73 : decode prog_46_method_5_code 73 = .ok (.aload_n 0, 1) := by decide +kernel
theorem d5_74 : decode prog_46_method_5_code 74 = .ok (.getfield 7, 3) := by decide +kernel
theorem d5_77 : decode prog_46_method_5_code 77 = .ok (.iload_n 2, 1) := by decide +kernel
theorem d5_78 : decode prog_46_method_5_code 78 = .ok (.iaload, 1) := by decide +kernel
theorem d5_79 : decode prog_46_method_5_code 79 = .ok (.istore 4, 2) := by decide +kernel
theorem d5_81 : decode prog_46_method_5_code 81 = .ok (.aload_n 0, 1) := by decide +kernel
theorem d5_82 : decode prog_46_method_5_code 82 = .ok (.getfield 13, 3) := by decide +kernel
theorem d5_85 : decode prog_46_method_5_code 85 = .ok (.iload_n 1, 1) := by decide +kernel
theorem d5_86 : decode prog_46_method_5_code 86 = .ok (.iload 4, 2) := by decide +kernel
theorem d5_88 : decode prog_46_method_5_code 88 = .ok (.iastore, 1) := by decide +kernel
theorem d5_89 : decode prog_46_method_5_code 89 = .ok (.aload_n 0, 1) := by decide +kernel
theorem d5_90 : decode prog_46_method_5_code 90 = .ok (.getfield 16, 3) := by decide +kernel
theorem d5_93 : decode prog_46_method_5_code 93 = .ok (.iload_n 1, 1) := by decide +kernel
theorem d5_94 : decode prog_46_method_5_code 94 = .ok (.iconst (-1), 1) := by decide +kernel
theorem d5_95 : decode prog_46_method_5_code 95 = .ok (.iastore, 1) := by decide +kernel
theorem d5_96 : decode prog_46_method_5_code 96 = .ok (.iload 4, 2) := by decide +kernel
theorem d5_98 : decode prog_46_method_5_code 98 = .ok (.iconst (-1), 1) := by decide +kernel
theorem d5_99 : decode prog_46_method_5_code 99 = .ok (.if_icmp .eq 11, 3) := by decide +kernel
theorem d5_102 : decode prog_46_method_5_code 102 = .ok (.aload_n 0, 1) := by decide +kernel
theorem d5_103 : decode prog_46_method_5_code 103 = .ok (.getfield 16, 3) := by decide +kernel
theorem d5_106 : decode prog_46_method_5_code 106 = .ok (.iload 4, 2) := by decide +kernel
theorem d5_108 : decode prog_46_method_5_code 108 = .ok (.iload_n 1, 1) := by decide +kernel
theorem d5_109 : decode prog_46_method_5_code 109 = .ok (.iastore, 1) := by decide +kernel
theorem d5_110 : decode prog_46_method_5_code 110 = .ok (.aload_n 0, 1) := by decide +kernel
theorem d5_111 : decode prog_46_method_5_code 111 = .ok (.getfield 7, 3) := by decide +kernel
theorem d5_114 : decode prog_46_method_5_code 114 = .ok (.iload_n 2, 1) := by decide +kernel
theorem d5_115 : decode prog_46_method_5_code 115 = .ok (.iload_n 1, 1) := by decide +kernel
theorem d5_116 : decode prog_46_method_5_code 116 = .ok (.iastore, 1) := by decide +kernel
theorem d5_117 : decode prog_46_method_5_code 117 = .ok (.aload_n 0, 1) := by decide +kernel
theorem d5_118 : decode prog_46_method_5_code 118 = .ok (.getfield 19, 3) := by decide +kernel
theorem d5_121 : decode prog_46_method_5_code 121 = .ok (.iload_n 1, 1) := by decide +kernel
theorem d5_122 : decode prog_46_method_5_code 122 = .ok (.iload_n 2, 1) := by decide +kernel
theorem d5_123 : decode prog_46_method_5_code 123 = .ok (.iastore, 1) := by decide +kernel
theorem d5_124 : decode prog_46_method_5_code 124 = .ok (.aload_n 0, 1) := by decide +kernel
theorem d5_125 : decode prog_46_method_5_code 125 = .ok (.dup, 1) := by decide +kernel
theorem d5_126 : decode prog_46_method_5_code 126 = .ok (.getfield 28, 3) := by decide +kernel
theorem d5_129 : decode prog_46_method_5_code 129 = .ok (.iconst 1, 1) := by decide +kernel
theorem d5_130 : decode prog_46_method_5_code 130 = .ok (.iadd, 1) := by decide +kernel
theorem d5_131 : decode prog_46_method_5_code 131 = .ok (.putfield 28, 3) := by decide +kernel
theorem d5_134 : decode prog_46_method_5_code 134 = .ok (.return_, 1) := by decide +kernel
theorem d5_51 : decode prog_46_method_5_code 51 = .ok (.iload_n 3, 1) := by decide +kernel
theorem d5_52 : decode prog_46_method_5_code 52 = .ok (.iload_n 2, 1) := by decide +kernel
theorem d5_53 : decode prog_46_method_5_code 53 = .ok (.if_icmp .gt 4, 3) := by decide +kernel
theorem d5_57 : decode prog_46_method_5_code 57 = .ok (.aload_n 0, 1) := by decide +kernel
theorem d5_58 : decode prog_46_method_5_code 58 = .ok (.iload_n 1, 1) := by decide +kernel
theorem d5_59 : decode prog_46_method_5_code 59 = .ok (.iload_n 3, 1) := by decide +kernel
theorem d5_60 : decode prog_46_method_5_code 60 = .ok (.invokevirtual 51, 3) := by decide +kernel
theorem d5_63 : decode prog_46_method_5_code 63 = .ok (.aload_n 0, 1) := by decide +kernel
theorem d5_64 : decode prog_46_method_5_code 64 = .ok (.dup, 1) := by decide +kernel
theorem d5_65 : decode prog_46_method_5_code 65 = .ok (.getfield 28, 3) := by decide +kernel
theorem d5_68 : decode prog_46_method_5_code 68 = .ok (.iconst 1, 1) := by decide +kernel
theorem d5_69 : decode prog_46_method_5_code 69 = .ok (.isub, 1) := by decide +kernel
theorem d5_70 : decode prog_46_method_5_code 70 = .ok (.putfield 28, 3) := by decide +kernel
theorem d5_56 : decode prog_46_method_5_code 56 = .ok (.return_, 1) := by decide +kernel
def m5_19_0 (p2 : Int32) (p3 : Int32) (f1 : Nat → Int32) (f3 : Nat → Int32) : Nat → Int32 := (if (f1 (p3).toNatClampNeg) = (-1 : Int32) then (fun i => if i = (p2).toNatClampNeg then (-1 : Int32) else f3 i) else (fun i => if i = ((f1 (p3).toNatClampNeg)).toNatClampNeg then p2 else (fun i => if i = (p2).toNatClampNeg then (-1 : Int32) else f3 i) i))
def m5_68_0 (p2 : Int32) (p3 : Int32) (g1_49 : Nat → Int32) (g3_49 : Nat → Int32) : Nat → Int32 := (if (g1_49 (p3).toNatClampNeg) = (-1 : Int32) then (fun i => if i = (p2).toNatClampNeg then (-1 : Int32) else g3_49 i) else (fun i => if i = ((g1_49 (p3).toNatClampNeg)).toNatClampNeg then p2 else (fun i => if i = (p2).toNatClampNeg then (-1 : Int32) else g3_49 i) i))
theorem ef_5 (m : MethodId) (x0 : Addr) (x1 : Int32) (x2 : Int32) : entryFrame m #[(.ref x0), (.int x1), (.int x2)] 5 = mkF m 0 #[.val (.ref x0), .val (.int x1), .val (.int x2), .unset, .unset] [] := by first | (simp [entryFrame, mkF, argsToLocals, Value.category]; done) | rfl
def Q5 (Z : State) (a1 : Addr) (p2 : Int32) (p3 : Int32) (r1 : Addr) (r2 : Addr) (r3 : Addr) (r4 : Addr) (z : Int32) (w : Int32) (f1 : Nat → Int32) (f2 : Nat → Int32) (f3 : Nat → Int32) (f4 : Nat → Int32) (h0 : Heap) (n0 : Nat) (v : Option Value) (h : Heap) (L : List Loc) : Prop := ∃ g1 : Nat → Int32, ∃ g2 : Nat → Int32, ∃ g3 : Nat → Int32, ∃ g4 : Nat → Int32, ∃ w1 : Int32, v = none ∧ Fr n0 L ∧ Keep h0 h [a1, r1, r2, r3, r4] ∧ Fld Z h a1 "com/example/hindsight/hindsight/solvers/BucketQueue" "first" "[I" (.ref r1) ∧ Fld Z h a1 "com/example/hindsight/hindsight/solvers/BucketQueue" "next" "[I" (.ref r2) ∧ Fld Z h a1 "com/example/hindsight/hindsight/solvers/BucketQueue" "previous" "[I" (.ref r3) ∧ Fld Z h a1 "com/example/hindsight/hindsight/solvers/BucketQueue" "keyOf" "[I" (.ref r4) ∧ Fld Z h a1 "com/example/hindsight/hindsight/solvers/BucketQueue" "cursor" "I" (.int (0 : Int32)) ∧ Fld Z h a1 "com/example/hindsight/hindsight/solvers/BucketQueue" "size" "I" (.int w1) ∧ AI Z h r1 .int z g1 ∧ AI Z h r2 .int (3 : Int32) g2 ∧ AI Z h r3 .int (3 : Int32) g3 ∧ AI Z h r4 .int (3 : Int32) g4 ∧ (own_inv z g1 g2 g3 g4) ∧ (∀ i, i < 3 → g4 i = noteF f4 p2 p3 i)
set_option maxRecDepth 65536 in
set_option maxHeartbeats 40000000 in
theorem rm5 (l : Launch) (Z : State) (a0 : Array Value) (hw : ∀ d ∈ tables_1, d.before a0 Z = true) (ws : List Jvm.Cond) (a1 : Addr) (p2 : Int32) (p3 : Int32) (r1 : Addr) (r2 : Addr) (r3 : Addr) (r4 : Addr) (z : Int32) (w : Int32) (f1 : Nat → Int32) (f2 : Nat → Int32) (f3 : Nat → Int32) (f4 : Nat → Int32) (h0 : Heap) (n0 : Nat) (Z0 : n0 ≤ h0.size) (E_a1 : Exa Z h0 a1 "com/example/hindsight/hindsight/solvers/BucketQueue") (F_a1_first : Fld Z h0 a1 "com/example/hindsight/hindsight/solvers/BucketQueue" "first" "[I" (.ref r1)) (F_a1_next : Fld Z h0 a1 "com/example/hindsight/hindsight/solvers/BucketQueue" "next" "[I" (.ref r2)) (F_a1_previous : Fld Z h0 a1 "com/example/hindsight/hindsight/solvers/BucketQueue" "previous" "[I" (.ref r3)) (F_a1_keyOf : Fld Z h0 a1 "com/example/hindsight/hindsight/solvers/BucketQueue" "keyOf" "[I" (.ref r4)) (F_a1_cursor : Fld Z h0 a1 "com/example/hindsight/hindsight/solvers/BucketQueue" "cursor" "I" (.int (0 : Int32))) (F_a1_size : Fld Z h0 a1 "com/example/hindsight/hindsight/solvers/BucketQueue" "size" "I" (.int w)) (V_r1 : AI Z h0 r1 .int z f1) (V_r2 : AI Z h0 r2 .int (3 : Int32) f2) (V_r3 : AI Z h0 r3 .int (3 : Int32) f3) (V_r4 : AI Z h0 r4 .int (3 : Int32) f4) (g_a1 : n0 ≤ a1) (g_r1 : n0 ≤ r1) (g_r2 : n0 ≤ r2) (g_r3 : n0 ≤ r3) (g_r4 : n0 ≤ r4) (ne_a1_r1 : a1 ≠ r1) (ne_a1_r2 : a1 ≠ r2) (ne_a1_r3 : a1 ≠ r3) (ne_a1_r4 : a1 ≠ r4) (ne_r1_r2 : r1 ≠ r2) (ne_r1_r3 : r1 ≠ r3) (ne_r1_r4 : r1 ≠ r4) (ne_r2_r3 : r2 ≠ r3) (ne_r2_r4 : r2 ≠ r4) (ne_r3_r4 : r3 ≠ r4) (hI : own_inv z f1 f2 f3 f4) (hn : ¬ p2 < (0 : Int32) ∧ p2 < (3 : Int32)) (hkr : 0 ≤ p3.toInt ∧ p3.toInt < z.toInt) :
    MetFree l (⟨"com/example/hindsight/hindsight/solvers/BucketQueue", "offer", "(II)V"⟩ : MethodName) (head1 (Jvm.Cond.code (⟨"com/example/hindsight/hindsight/solvers/BucketQueue", "offer", "(II)V"⟩ : MethodName) prog_46_method_5_code 5 none :: ws) ({ frames := 1, cells := 0, slots := 0, locals := 16 } : Room)) (fun a U => a = #[(.ref a1), (.int p2), (.int p3)] ∧ Z.Warmed39 U.vm ∧ U.heap = h0) (fun _ _ _ _ _ => True) (fun _ U o U' => ∃ v L, o = .returned v ∧ Q5 Z a1 p2 p3 r1 r2 r3 r4 z w f1 f2 f3 f4 h0 n0 v U'.heap L ∧ FrameEnd U o U' L ({ frames := 1, cells := 0, slots := 0, locals := 16 } : Room).cells ({ frames := 1, cells := 0, slots := 0, locals := 16 } : Room).slots) := by
  refine MetFree.of_bodySF (plainFor_of_name pn_2) hisR ?_
  intro p e s m args below meth c s₁ Bd hml0 hP hK
  obtain ⟨rfl, hZ, hh⟩ := hP
  have hx := Bd.exec
  have hlk : meth.locks = false := by first | exact BodyLoose.notSynchronized Bd | exact Body.notSynchronized Bd
  have hby := Bd.bytes
  have hml : c.maxLocals = 5 := hml0
  have hown : s.vm.findClass "com/example/hindsight/hindsight/solvers/BucketQueue" = some m.cls := findClass_of_methodNamed Bd.named
  have hnm := (name_of_methodNamed Bd.named Bd.method).1
  have X0 : Stand p l e ({ frames := 1, cells := 0, slots := 0, locals := 16 } : Room) s m #[(.ref a1), (.int p2), (.int p3)] below meth c s₁ [] 0 0 := Stand.of_body Bd
  have e0 : s₁.heap = h0 := by rw [← hh, Bd.state]; rfl
  have N0 := Fr.nil n0
  have pre0 : ∀ t, Steps p.tables e below (s₁.setTop (mkF m 0 #[.val (.ref a1), .val (.int p2), .val (.int p3), .unset, .unset] [])) t → Steps p.tables e below (s₁.setTop (entryFrame m #[(.ref a1), (.int p2), (.int p3)] 5)) t := fun t k => castTop (ef_5 m a1 p2 p3) k
  obtain ⟨T1, X1, e1, st1⟩ := getF X0 hx hZ hown (host := "") (Or.inl (hw _ (List.mem_of_getElem? (i := 32) rfl))) Via.refl e0 F_a1_cursor (g := (mkF m 2 #[.val (.ref a1), .val (.int p2), .val (.int p3), .unset, .unset] [(.ref a1), (.int p3)])) rfl rfl (hb hby d5_2)
  have hc2 : ¬ (p3 < (0 : Int32)) := by exact (own_ij2 hkr).1
  obtain ⟨T3, X3, e3, st3⟩ := getF X1 hx hZ hown (host := "") (Or.inl (hw _ (List.mem_of_getElem? (i := 15) rfl))) Via.refl e1 F_a1_first (g := (mkF m 10 #[.val (.ref a1), .val (.int p2), .val (.int p3), .unset, .unset] [(.ref a1), (.int p3)])) rfl rfl (hb hby d5_10)
  obtain ⟨cl4, A4, S4, M4, -⟩ := id V_r1
  have hc5 : p3 < z := by exact (own_ij2 hkr).2
  obtain ⟨T6, X6, e6, st6⟩ := getF X3 hx hZ hown (host := "") (Or.inl (hw _ (List.mem_of_getElem? (i := 21) rfl))) Via.refl e3 F_a1_keyOf (g := (mkF m 40 #[.val (.ref a1), .val (.int p2), .val (.int p3), .unset, .unset] [(.ref a1)])) rfl rfl (hb hby d5_40)
  obtain ⟨cl7, A7, S7, M7, G7⟩ := id V_r4
  have hin7 : ¬ (p2 < 0 ∨ cl7.slots.size ≤ (p2).toNatClampNeg) := inb_of S7 (hn)
  have hat7 : cl7.slots[(p2).toNatClampNeg]? = some (.int (f4 (p2).toNatClampNeg)) := AI.at S7 G7 hin7
  have pre8 : ∀ t, Steps p.tables e below (T6.setTop (mkF m 48 #[.val (.ref a1), .val (.int p2), .val (.int p3), .val (.int (f4 (p2).toNatClampNeg)), .unset] [(.int (-1 : Int32)), (.int (f4 (p2).toNatClampNeg))])) t → Steps p.tables e below (s₁.setTop (entryFrame m #[(.ref a1), (.int p2), (.int p3)] 5)) t := fun t k => pre0 t (by
    show Steps p.tables e below (s₁.setTop (mkF m 0 #[.val (.ref a1), .val (.int p2), .val (.int p3), .unset, .unset] [])) _
    refine XS.iloadN X0.here hx rfl (hb hby d5_0) rfl ?_
    show Steps p.tables e below (s₁.setTop (mkF m 1 #[.val (.ref a1), .val (.int p2), .val (.int p3), .unset, .unset] [(.int p3)])) _
    refine XS.aloadN X0.here hx rfl (hb hby d5_1) rfl rfl ?_
    show Steps p.tables e below (s₁.setTop (mkF m 2 #[.val (.ref a1), .val (.int p2), .val (.int p3), .unset, .unset] [(.ref a1), (.int p3)])) _
    refine st1 _ ?_
    show Steps p.tables e below (T1.setTop (mkF m 5 #[.val (.ref a1), .val (.int p2), .val (.int p3), .unset, .unset] [(.int (0 : Int32)), (.int p3)])) _
    refine XS.icmpNo X1.here hx rfl (hb hby d5_5) rfl (flt hc2).1 ?_
    show Steps p.tables e below (T1.setTop (mkF m 8 #[.val (.ref a1), .val (.int p2), .val (.int p3), .unset, .unset] [])) _
    refine XS.iloadN X1.here hx rfl (hb hby d5_8) rfl ?_
    show Steps p.tables e below (T1.setTop (mkF m 9 #[.val (.ref a1), .val (.int p2), .val (.int p3), .unset, .unset] [(.int p3)])) _
    refine XS.aloadN X1.here hx rfl (hb hby d5_9) rfl rfl ?_
    show Steps p.tables e below (T1.setTop (mkF m 10 #[.val (.ref a1), .val (.int p2), .val (.int p3), .unset, .unset] [(.ref a1), (.int p3)])) _
    refine st3 _ ?_
    show Steps p.tables e below (T3.setTop (mkF m 13 #[.val (.ref a1), .val (.int p2), .val (.int p3), .unset, .unset] [(.ref r1), (.int p3)])) _
    refine X3.arraylength hx (by rw [e3]; exact A4.1) (State.isArrayOf_alike hZ.alike A4.2.1) (g := (mkF m 13 #[.val (.ref a1), .val (.int p2), .val (.int p3), .unset, .unset] [(.ref r1), (.int p3)])) rfl rfl (hb hby d5_13) _ ?_
    rw [len_of S4 M4]
    show Steps p.tables e below (T3.setTop (mkF m 14 #[.val (.ref a1), .val (.int p2), .val (.int p3), .unset, .unset] [(.int z), (.int p3)])) _
    refine XS.icmpYes X3.here hx rfl (pc0 := 14) (pc' := 39) rfl (hb hby d5_14) rfl (tlt hc5).1 (by decide) (by decide) ?_
    show Steps p.tables e below (T3.setTop (mkF m 39 #[.val (.ref a1), .val (.int p2), .val (.int p3), .unset, .unset] [])) _
    refine XS.aloadN X3.here hx rfl (hb hby d5_39) rfl rfl ?_
    show Steps p.tables e below (T3.setTop (mkF m 40 #[.val (.ref a1), .val (.int p2), .val (.int p3), .unset, .unset] [(.ref a1)])) _
    refine st6 _ ?_
    show Steps p.tables e below (T6.setTop (mkF m 43 #[.val (.ref a1), .val (.int p2), .val (.int p3), .unset, .unset] [(.ref r4)])) _
    refine XS.iloadN X6.here hx rfl (hb hby d5_43) rfl ?_
    show Steps p.tables e below (T6.setTop (mkF m 44 #[.val (.ref a1), .val (.int p2), .val (.int p3), .unset, .unset] [(.int p2), (.ref r4)])) _
    refine X6.iaload hx (j := p2) (v := (.int (f4 (p2).toNatClampNeg))) (by rw [e6]; exact A7.1) (State.isArrayOf_alike hZ.alike A7.2.1) A7.2.2 hin7 hat7 (g := (mkF m 44 #[.val (.ref a1), .val (.int p2), .val (.int p3), .unset, .unset] [(.int p2), (.ref r4)])) rfl rfl (hb hby d5_44) _ ?_
    show Steps p.tables e below (T6.setTop (mkF m 45 #[.val (.ref a1), .val (.int p2), .val (.int p3), .unset, .unset] [(.int (f4 (p2).toNatClampNeg))])) _
    refine XS.istoreN X6.here hx rfl (hb hby d5_45) rfl (l' := #[.val (.ref a1), .val (.int p2), .val (.int p3), .val (.int (f4 (p2).toNatClampNeg)), .unset]) rfl ?_
    show Steps p.tables e below (T6.setTop (mkF m 46 #[.val (.ref a1), .val (.int p2), .val (.int p3), .val (.int (f4 (p2).toNatClampNeg)), .unset] [])) _
    refine XS.iloadN X6.here hx rfl (hb hby d5_46) rfl ?_
    show Steps p.tables e below (T6.setTop (mkF m 47 #[.val (.ref a1), .val (.int p2), .val (.int p3), .val (.int (f4 (p2).toNatClampNeg)), .unset] [(.int (f4 (p2).toNatClampNeg))])) _
    refine XS.iconst X6.here hx rfl (hb hby d5_47) ?_
    exact k)
  by_cases hc9 : (f4 (p2).toNatClampNeg) = (-1 : Int32)
  · obtain ⟨T10, X10, e10, st10⟩ := getF X6 hx hZ hown (host := "") (Or.inl (hw _ (List.mem_of_getElem? (i := 15) rfl))) Via.refl e6 F_a1_first (g := (mkF m 74 #[.val (.ref a1), .val (.int p2), .val (.int p3), .val (.int (f4 (p2).toNatClampNeg)), .unset] [(.ref a1)])) rfl rfl (hb hby d5_74)
    obtain ⟨cl11, A11, S11, M11, G11⟩ := id V_r1
    have hin11 : ¬ (p3 < 0 ∨ cl11.slots.size ≤ (p3).toNatClampNeg) := inb_of S11 (own_ij2 hkr)
    have hat11 : cl11.slots[(p3).toNatClampNeg]? = some (.int (f1 (p3).toNatClampNeg)) := AI.at S11 G11 hin11
    obtain ⟨T12, X12, e12, st12⟩ := getF X10 hx hZ hown (host := "") (Or.inl (hw _ (List.mem_of_getElem? (i := 17) rfl))) Via.refl e10 F_a1_next (g := (mkF m 82 #[.val (.ref a1), .val (.int p2), .val (.int p3), .val (.int (f4 (p2).toNatClampNeg)), .val (.int (f1 (p3).toNatClampNeg))] [(.ref a1)])) rfl rfl (hb hby d5_82)
    obtain ⟨cl13, A13, S13, M13, G13⟩ := id V_r2
    have hin13 : ¬ (p2 < 0 ∨ cl13.slots.size ≤ (p2).toNatClampNeg) := inb_of S13 (hn)
    obtain ⟨T13, h13, X13, e13, W13, st13⟩ := stI X12 hx hZ e12 A13 (j := p2) hin13 (g := (mkF m 88 #[.val (.ref a1), .val (.int p2), .val (.int p3), .val (.int (f4 (p2).toNatClampNeg)), .val (.int (f1 (p3).toNatClampNeg))] [(.int (f1 (p3).toNatClampNeg)), (.int p2), (.ref r2)])) rfl rfl (hb hby d5_88)
    have V13 : AI Z h13 r2 .int (3 : Int32) (fun i => if i = (p2).toNatClampNeg then (f1 (p3).toNatClampNeg) else f2 i) := AI.set A13 S13 M13 G13 W13
    have K13 : Keep h0 h13 [a1, r1, r2, r3, r4] := (Keep.refl h0 [a1, r1, r2, r3, r4]).wr W13 (Or.inl (List.mem_of_getElem? (i := 2) rfl))
    have N13 := Fr.snoc X13 N0 g_r2
    have F15 := (F_a1_previous.other W13 (Or.inl ne_a1_r2))
    obtain ⟨T14, X14, e14, st14⟩ := getF X13 hx hZ hown (host := "") (Or.inl (hw _ (List.mem_of_getElem? (i := 19) rfl))) Via.refl e13 F15 (g := (mkF m 90 #[.val (.ref a1), .val (.int p2), .val (.int p3), .val (.int (f4 (p2).toNatClampNeg)), .val (.int (f1 (p3).toNatClampNeg))] [(.ref a1)])) rfl rfl (hb hby d5_90)
    have F17 := (V_r3.other W13 (Ne.symm ne_r2_r3))
    obtain ⟨cl16, A16, S16, M16, G16⟩ := id F17
    have hin16 : ¬ (p2 < 0 ∨ cl16.slots.size ≤ (p2).toNatClampNeg) := inb_of S16 (hn)
    obtain ⟨T16, h16, X16, e16, W16, st16⟩ := stI X14 hx hZ e14 A16 (j := p2) hin16 (g := (mkF m 95 #[.val (.ref a1), .val (.int p2), .val (.int p3), .val (.int (f4 (p2).toNatClampNeg)), .val (.int (f1 (p3).toNatClampNeg))] [(.int (-1 : Int32)), (.int p2), (.ref r3)])) rfl rfl (hb hby d5_95)
    have V16 : AI Z h16 r3 .int (3 : Int32) (fun i => if i = (p2).toNatClampNeg then (-1 : Int32) else f3 i) := AI.set A16 S16 M16 G16 W16
    have K16 : Keep h0 h16 [a1, r1, r2, r3, r4] := K13.wr W16 (Or.inl (List.mem_of_getElem? (i := 3) rfl))
    have N16 := Fr.snoc X16 N13 g_r3
    have pre18 : ∀ t, Steps p.tables e below (T16.setTop (mkF m 99 #[.val (.ref a1), .val (.int p2), .val (.int p3), .val (.int (f4 (p2).toNatClampNeg)), .val (.int (f1 (p3).toNatClampNeg))] [(.int (-1 : Int32)), (.int (f1 (p3).toNatClampNeg))])) t → Steps p.tables e below (s₁.setTop (entryFrame m #[(.ref a1), (.int p2), (.int p3)] 5)) t := fun t k => pre8 t (by
      show Steps p.tables e below (T6.setTop (mkF m 48 #[.val (.ref a1), .val (.int p2), .val (.int p3), .val (.int (f4 (p2).toNatClampNeg)), .unset] [(.int (-1 : Int32)), (.int (f4 (p2).toNatClampNeg))])) _
      refine XS.icmpYes X6.here hx rfl (pc0 := 48) (pc' := 73) rfl (hb hby d5_48) rfl (teq hc9).1 (by decide) (by decide) ?_
      show Steps p.tables e below (T6.setTop (mkF m 73 #[.val (.ref a1), .val (.int p2), .val (.int p3), .val (.int (f4 (p2).toNatClampNeg)), .unset] [])) _
      refine XS.aloadN X6.here hx rfl (hb hby d5_73) rfl rfl ?_
      show Steps p.tables e below (T6.setTop (mkF m 74 #[.val (.ref a1), .val (.int p2), .val (.int p3), .val (.int (f4 (p2).toNatClampNeg)), .unset] [(.ref a1)])) _
      refine st10 _ ?_
      show Steps p.tables e below (T10.setTop (mkF m 77 #[.val (.ref a1), .val (.int p2), .val (.int p3), .val (.int (f4 (p2).toNatClampNeg)), .unset] [(.ref r1)])) _
      refine XS.iloadN X10.here hx rfl (hb hby d5_77) rfl ?_
      show Steps p.tables e below (T10.setTop (mkF m 78 #[.val (.ref a1), .val (.int p2), .val (.int p3), .val (.int (f4 (p2).toNatClampNeg)), .unset] [(.int p3), (.ref r1)])) _
      refine X10.iaload hx (j := p3) (v := (.int (f1 (p3).toNatClampNeg))) (by rw [e10]; exact A11.1) (State.isArrayOf_alike hZ.alike A11.2.1) A11.2.2 hin11 hat11 (g := (mkF m 78 #[.val (.ref a1), .val (.int p2), .val (.int p3), .val (.int (f4 (p2).toNatClampNeg)), .unset] [(.int p3), (.ref r1)])) rfl rfl (hb hby d5_78) _ ?_
      show Steps p.tables e below (T10.setTop (mkF m 79 #[.val (.ref a1), .val (.int p2), .val (.int p3), .val (.int (f4 (p2).toNatClampNeg)), .unset] [(.int (f1 (p3).toNatClampNeg))])) _
      refine XS.istore X10.here hx rfl (hb hby d5_79) rfl (l' := #[.val (.ref a1), .val (.int p2), .val (.int p3), .val (.int (f4 (p2).toNatClampNeg)), .val (.int (f1 (p3).toNatClampNeg))]) rfl ?_
      show Steps p.tables e below (T10.setTop (mkF m 81 #[.val (.ref a1), .val (.int p2), .val (.int p3), .val (.int (f4 (p2).toNatClampNeg)), .val (.int (f1 (p3).toNatClampNeg))] [])) _
      refine XS.aloadN X10.here hx rfl (hb hby d5_81) rfl rfl ?_
      show Steps p.tables e below (T10.setTop (mkF m 82 #[.val (.ref a1), .val (.int p2), .val (.int p3), .val (.int (f4 (p2).toNatClampNeg)), .val (.int (f1 (p3).toNatClampNeg))] [(.ref a1)])) _
      refine st12 _ ?_
      show Steps p.tables e below (T12.setTop (mkF m 85 #[.val (.ref a1), .val (.int p2), .val (.int p3), .val (.int (f4 (p2).toNatClampNeg)), .val (.int (f1 (p3).toNatClampNeg))] [(.ref r2)])) _
      refine XS.iloadN X12.here hx rfl (hb hby d5_85) rfl ?_
      show Steps p.tables e below (T12.setTop (mkF m 86 #[.val (.ref a1), .val (.int p2), .val (.int p3), .val (.int (f4 (p2).toNatClampNeg)), .val (.int (f1 (p3).toNatClampNeg))] [(.int p2), (.ref r2)])) _
      refine XS.iload X12.here hx rfl (hb hby d5_86) rfl ?_
      show Steps p.tables e below (T12.setTop (mkF m 88 #[.val (.ref a1), .val (.int p2), .val (.int p3), .val (.int (f4 (p2).toNatClampNeg)), .val (.int (f1 (p3).toNatClampNeg))] [(.int (f1 (p3).toNatClampNeg)), (.int p2), (.ref r2)])) _
      refine st13 _ ?_
      show Steps p.tables e below (T13.setTop (mkF m 89 #[.val (.ref a1), .val (.int p2), .val (.int p3), .val (.int (f4 (p2).toNatClampNeg)), .val (.int (f1 (p3).toNatClampNeg))] [])) _
      refine XS.aloadN X13.here hx rfl (hb hby d5_89) rfl rfl ?_
      show Steps p.tables e below (T13.setTop (mkF m 90 #[.val (.ref a1), .val (.int p2), .val (.int p3), .val (.int (f4 (p2).toNatClampNeg)), .val (.int (f1 (p3).toNatClampNeg))] [(.ref a1)])) _
      refine st14 _ ?_
      show Steps p.tables e below (T14.setTop (mkF m 93 #[.val (.ref a1), .val (.int p2), .val (.int p3), .val (.int (f4 (p2).toNatClampNeg)), .val (.int (f1 (p3).toNatClampNeg))] [(.ref r3)])) _
      refine XS.iloadN X14.here hx rfl (hb hby d5_93) rfl ?_
      show Steps p.tables e below (T14.setTop (mkF m 94 #[.val (.ref a1), .val (.int p2), .val (.int p3), .val (.int (f4 (p2).toNatClampNeg)), .val (.int (f1 (p3).toNatClampNeg))] [(.int p2), (.ref r3)])) _
      refine XS.iconst X14.here hx rfl (hb hby d5_94) ?_
      show Steps p.tables e below (T14.setTop (mkF m 95 #[.val (.ref a1), .val (.int p2), .val (.int p3), .val (.int (f4 (p2).toNatClampNeg)), .val (.int (f1 (p3).toNatClampNeg))] [(.int (-1 : Int32)), (.int p2), (.ref r3)])) _
      refine st16 _ ?_
      show Steps p.tables e below (T16.setTop (mkF m 96 #[.val (.ref a1), .val (.int p2), .val (.int p3), .val (.int (f4 (p2).toNatClampNeg)), .val (.int (f1 (p3).toNatClampNeg))] [])) _
      refine XS.iload X16.here hx rfl (hb hby d5_96) rfl ?_
      show Steps p.tables e below (T16.setTop (mkF m 98 #[.val (.ref a1), .val (.int p2), .val (.int p3), .val (.int (f4 (p2).toNatClampNeg)), .val (.int (f1 (p3).toNatClampNeg))] [(.int (f1 (p3).toNatClampNeg))])) _
      refine XS.iconst X16.here hx rfl (hb hby d5_98) ?_
      exact k)
    obtain ⟨T19, locs19, h19, X19, e19, N19, Kj19, P19_0, pre19⟩ : ∃ (T' : State) (locs' : List Loc) (h' : Heap), Stand p l e ({ frames := 1, cells := 0, slots := 0, locals := 16 } : Room) s m #[(.ref a1), (.int p2), (.int p3)] below meth c T' locs' 0 0 ∧ T'.heap = h' ∧ Fr n0 locs' ∧ Keep h16 h' [r3] ∧ AI Z h' r3 .int (3 : Int32) (m5_19_0 p2 p3 f1 f3) ∧ ∀ t, Steps p.tables e below (T'.setTop (mkF m 110 #[.val (.ref a1), .val (.int p2), .val (.int p3), .val (.int (f4 (p2).toNatClampNeg)), .val (.int (f1 (p3).toNatClampNeg))] [])) t → Steps p.tables e below (s₁.setTop (entryFrame m #[(.ref a1), (.int p2), (.int p3)] 5)) t := by
      by_cases hc20 : (f1 (p3).toNatClampNeg) = (-1 : Int32)
      · exact ⟨_, _, _, X16, e16, N16, (Keep.refl _ [r3]), (by rw [show (m5_19_0 p2 p3 f1 f3) = (fun i => if i = (p2).toNatClampNeg then (-1 : Int32) else f3 i) from by first | (rw [m5_19_0, if_pos hc20]; done) | (simp only [m5_19_0, if_pos hc20]; done) | rfl]; exact V16), fun t k => pre18 t (by
          show Steps p.tables e below (T16.setTop (mkF m 99 #[.val (.ref a1), .val (.int p2), .val (.int p3), .val (.int (f4 (p2).toNatClampNeg)), .val (.int (f1 (p3).toNatClampNeg))] [(.int (-1 : Int32)), (.int (f1 (p3).toNatClampNeg))])) _
          refine XS.icmpYes X16.here hx rfl (pc0 := 99) (pc' := 110) rfl (hb hby d5_99) rfl (teq hc20).1 (by decide) (by decide) ?_
          exact k)⟩
      · have F22 := (F15.other W16 (Or.inl ne_a1_r3))
        obtain ⟨T21, X21, e21, st21⟩ := getF X16 hx hZ hown (host := "") (Or.inl (hw _ (List.mem_of_getElem? (i := 19) rfl))) Via.refl e16 F22 (g := (mkF m 103 #[.val (.ref a1), .val (.int p2), .val (.int p3), .val (.int (f4 (p2).toNatClampNeg)), .val (.int (f1 (p3).toNatClampNeg))] [(.ref a1)])) rfl rfl (hb hby d5_103)
        obtain ⟨cl23, A23, S23, M23, G23⟩ := id V16
        have hin23 : ¬ ((f1 (p3).toNatClampNeg) < 0 ∨ cl23.slots.size ≤ ((f1 (p3).toNatClampNeg)).toNatClampNeg) := inb_of S23 ((own_hd hI hkr.1 hkr.2 hc20).1)
        obtain ⟨T23, h23, X23, e23, W23, st23⟩ := stI X21 hx hZ e21 A23 (j := (f1 (p3).toNatClampNeg)) hin23 (g := (mkF m 109 #[.val (.ref a1), .val (.int p2), .val (.int p3), .val (.int (f4 (p2).toNatClampNeg)), .val (.int (f1 (p3).toNatClampNeg))] [(.int p2), (.int (f1 (p3).toNatClampNeg)), (.ref r3)])) rfl rfl (hb hby d5_109)
        have V23 : AI Z h23 r3 .int (3 : Int32) (fun i => if i = ((f1 (p3).toNatClampNeg)).toNatClampNeg then p2 else (fun i => if i = (p2).toNatClampNeg then (-1 : Int32) else f3 i) i) := AI.set A23 S23 M23 G23 W23
        have K23 : Keep h0 h23 [a1, r1, r2, r3, r4] := K16.wr W23 (Or.inl (List.mem_of_getElem? (i := 3) rfl))
        have N23 := Fr.snoc X23 N16 g_r3
        exact ⟨_, _, _, X23, e23, N23, ((Keep.refl _ [r3]).wr W23 (Or.inl (List.mem_of_getElem? (i := 0) rfl))), (by rw [show (m5_19_0 p2 p3 f1 f3) = (fun i => if i = ((f1 (p3).toNatClampNeg)).toNatClampNeg then p2 else (fun i => if i = (p2).toNatClampNeg then (-1 : Int32) else f3 i) i) from by first | (rw [m5_19_0, if_neg hc20]; done) | (simp only [m5_19_0, if_neg hc20]; done) | rfl]; exact V23), fun t k => pre18 t (by
          show Steps p.tables e below (T16.setTop (mkF m 99 #[.val (.ref a1), .val (.int p2), .val (.int p3), .val (.int (f4 (p2).toNatClampNeg)), .val (.int (f1 (p3).toNatClampNeg))] [(.int (-1 : Int32)), (.int (f1 (p3).toNatClampNeg))])) _
          refine XS.icmpNo X16.here hx rfl (hb hby d5_99) rfl (feq hc20).1 ?_
          show Steps p.tables e below (T16.setTop (mkF m 102 #[.val (.ref a1), .val (.int p2), .val (.int p3), .val (.int (f4 (p2).toNatClampNeg)), .val (.int (f1 (p3).toNatClampNeg))] [])) _
          refine XS.aloadN X16.here hx rfl (hb hby d5_102) rfl rfl ?_
          show Steps p.tables e below (T16.setTop (mkF m 103 #[.val (.ref a1), .val (.int p2), .val (.int p3), .val (.int (f4 (p2).toNatClampNeg)), .val (.int (f1 (p3).toNatClampNeg))] [(.ref a1)])) _
          refine st21 _ ?_
          show Steps p.tables e below (T21.setTop (mkF m 106 #[.val (.ref a1), .val (.int p2), .val (.int p3), .val (.int (f4 (p2).toNatClampNeg)), .val (.int (f1 (p3).toNatClampNeg))] [(.ref r3)])) _
          refine XS.iload X21.here hx rfl (hb hby d5_106) rfl ?_
          show Steps p.tables e below (T21.setTop (mkF m 108 #[.val (.ref a1), .val (.int p2), .val (.int p3), .val (.int (f4 (p2).toNatClampNeg)), .val (.int (f1 (p3).toNatClampNeg))] [(.int (f1 (p3).toNatClampNeg)), (.ref r3)])) _
          refine XS.iloadN X21.here hx rfl (hb hby d5_108) rfl ?_
          show Steps p.tables e below (T21.setTop (mkF m 109 #[.val (.ref a1), .val (.int p2), .val (.int p3), .val (.int (f4 (p2).toNatClampNeg)), .val (.int (f1 (p3).toNatClampNeg))] [(.int p2), (.int (f1 (p3).toNatClampNeg)), (.ref r3)])) _
          refine st23 _ ?_
          exact k)⟩
    have K24 : Keep h0 h19 [a1, r1, r2, r3, r4] := K16.trans Kj19 (allS (Or.inl (List.mem_of_getElem? (i := 3) rfl)) all0)
    have F26 := (((F_a1_first.other W13 (Or.inl ne_a1_r2)).other W16 (Or.inl ne_a1_r3)).keep Kj19 (ninS ne_a1_r3 nin0))
    obtain ⟨T25, X25, e25, st25⟩ := getF X19 hx hZ hown (host := "") (Or.inl (hw _ (List.mem_of_getElem? (i := 15) rfl))) Via.refl e19 F26 (g := (mkF m 111 #[.val (.ref a1), .val (.int p2), .val (.int p3), .val (.int (f4 (p2).toNatClampNeg)), .val (.int (f1 (p3).toNatClampNeg))] [(.ref a1)])) rfl rfl (hb hby d5_111)
    have F28 := (((V_r1.other W13 ne_r1_r2).other W16 ne_r1_r3).keep Kj19 (ninS ne_r1_r3 nin0))
    obtain ⟨cl27, A27, S27, M27, G27⟩ := id F28
    have hin27 : ¬ (p3 < 0 ∨ cl27.slots.size ≤ (p3).toNatClampNeg) := inb_of S27 (own_ij2 hkr)
    obtain ⟨T27, h27, X27, e27, W27, st27⟩ := stI X25 hx hZ e25 A27 (j := p3) hin27 (g := (mkF m 116 #[.val (.ref a1), .val (.int p2), .val (.int p3), .val (.int (f4 (p2).toNatClampNeg)), .val (.int (f1 (p3).toNatClampNeg))] [(.int p2), (.int p3), (.ref r1)])) rfl rfl (hb hby d5_116)
    have V27 : AI Z h27 r1 .int z (fun i => if i = (p3).toNatClampNeg then p2 else f1 i) := AI.set A27 S27 M27 G27 W27
    have K27 : Keep h0 h27 [a1, r1, r2, r3, r4] := K24.wr W27 (Or.inl (List.mem_of_getElem? (i := 1) rfl))
    have N27 := Fr.snoc X27 N19 g_r1
    have F30 := ((((F_a1_keyOf.other W13 (Or.inl ne_a1_r2)).other W16 (Or.inl ne_a1_r3)).keep Kj19 (ninS ne_a1_r3 nin0)).other W27 (Or.inl ne_a1_r1))
    obtain ⟨T29, X29, e29, st29⟩ := getF X27 hx hZ hown (host := "") (Or.inl (hw _ (List.mem_of_getElem? (i := 21) rfl))) Via.refl e27 F30 (g := (mkF m 118 #[.val (.ref a1), .val (.int p2), .val (.int p3), .val (.int (f4 (p2).toNatClampNeg)), .val (.int (f1 (p3).toNatClampNeg))] [(.ref a1)])) rfl rfl (hb hby d5_118)
    have F32 := ((((V_r4.other W13 (Ne.symm ne_r2_r4)).other W16 (Ne.symm ne_r3_r4)).keep Kj19 (ninS (Ne.symm ne_r3_r4) nin0)).other W27 (Ne.symm ne_r1_r4))
    obtain ⟨cl31, A31, S31, M31, G31⟩ := id F32
    have hin31 : ¬ (p2 < 0 ∨ cl31.slots.size ≤ (p2).toNatClampNeg) := inb_of S31 (hn)
    obtain ⟨T31, h31, X31, e31, W31, st31⟩ := stI X29 hx hZ e29 A31 (j := p2) hin31 (g := (mkF m 123 #[.val (.ref a1), .val (.int p2), .val (.int p3), .val (.int (f4 (p2).toNatClampNeg)), .val (.int (f1 (p3).toNatClampNeg))] [(.int p3), (.int p2), (.ref r4)])) rfl rfl (hb hby d5_123)
    have V31 : AI Z h31 r4 .int (3 : Int32) (fun i => if i = (p2).toNatClampNeg then p3 else f4 i) := AI.set A31 S31 M31 G31 W31
    have K31 : Keep h0 h31 [a1, r1, r2, r3, r4] := K27.wr W31 (Or.inl (List.mem_of_getElem? (i := 4) rfl))
    have N31 := Fr.snoc X31 N27 g_r4
    have F34 := (((((F_a1_size.other W13 (Or.inl ne_a1_r2)).other W16 (Or.inl ne_a1_r3)).keep Kj19 (ninS ne_a1_r3 nin0)).other W27 (Or.inl ne_a1_r1)).other W31 (Or.inl ne_a1_r4))
    obtain ⟨T33, X33, e33, st33⟩ := getF X31 hx hZ hown (host := "") (Or.inl (hw _ (List.mem_of_getElem? (i := 34) rfl))) Via.refl e31 F34 (g := (mkF m 126 #[.val (.ref a1), .val (.int p2), .val (.int p3), .val (.int (f4 (p2).toNatClampNeg)), .val (.int (f1 (p3).toNatClampNeg))] [(.ref a1), (.ref a1)])) rfl rfl (hb hby d5_126)
    have F36 := (((((E_a1.wr W13).wr W16).keep Kj19).wr W27).wr W31)
    obtain ⟨T35, h35, X35, e35, W35, st35⟩ := putF X33 hx hZ hown (host := "") (Or.inl (hw _ (List.mem_of_getElem? (i := 34) rfl))) Via.refl e33 F34 F36 (Or.inl (hw _ (List.mem_of_getElem? (i := 35) rfl))) (hw _ (List.mem_of_getElem? (i := 7) rfl)) (ty := .int) (by decide) rfl rfl (g := (mkF m 131 #[.val (.ref a1), .val (.int p2), .val (.int p3), .val (.int (f4 (p2).toNatClampNeg)), .val (.int (f1 (p3).toNatClampNeg))] [(.int (w + (1 : Int32))), (.ref a1)])) rfl rfl (hb hby d5_131)
    have Fw35 := F34.same W35
    have K35 : Keep h0 h35 [a1, r1, r2, r3, r4] := K31.wr W35 (Or.inl (List.mem_of_getElem? (i := 0) rfl))
    have N35 := Fr.snoc X35 N31 g_a1
    obtain ⟨fs, hr, hrun, hended, hW, hsame⟩ := X35.leave (v := none) (fun _ => rfl) hlk
    refine ⟨_, _, pre19 _ ?_, hrun, hended, _, _, rfl, ?_, ⟨_, rfl⟩, hW, hsame.mono (by decide) (by decide)⟩
    · show Steps p.tables e below (T19.setTop (mkF m 110 #[.val (.ref a1), .val (.int p2), .val (.int p3), .val (.int (f4 (p2).toNatClampNeg)), .val (.int (f1 (p3).toNatClampNeg))] [])) _
      refine XS.aloadN X19.here hx rfl (hb hby d5_110) rfl rfl ?_
      show Steps p.tables e below (T19.setTop (mkF m 111 #[.val (.ref a1), .val (.int p2), .val (.int p3), .val (.int (f4 (p2).toNatClampNeg)), .val (.int (f1 (p3).toNatClampNeg))] [(.ref a1)])) _
      refine st25 _ ?_
      show Steps p.tables e below (T25.setTop (mkF m 114 #[.val (.ref a1), .val (.int p2), .val (.int p3), .val (.int (f4 (p2).toNatClampNeg)), .val (.int (f1 (p3).toNatClampNeg))] [(.ref r1)])) _
      refine XS.iloadN X25.here hx rfl (hb hby d5_114) rfl ?_
      show Steps p.tables e below (T25.setTop (mkF m 115 #[.val (.ref a1), .val (.int p2), .val (.int p3), .val (.int (f4 (p2).toNatClampNeg)), .val (.int (f1 (p3).toNatClampNeg))] [(.int p3), (.ref r1)])) _
      refine XS.iloadN X25.here hx rfl (hb hby d5_115) rfl ?_
      show Steps p.tables e below (T25.setTop (mkF m 116 #[.val (.ref a1), .val (.int p2), .val (.int p3), .val (.int (f4 (p2).toNatClampNeg)), .val (.int (f1 (p3).toNatClampNeg))] [(.int p2), (.int p3), (.ref r1)])) _
      refine st27 _ ?_
      show Steps p.tables e below (T27.setTop (mkF m 117 #[.val (.ref a1), .val (.int p2), .val (.int p3), .val (.int (f4 (p2).toNatClampNeg)), .val (.int (f1 (p3).toNatClampNeg))] [])) _
      refine XS.aloadN X27.here hx rfl (hb hby d5_117) rfl rfl ?_
      show Steps p.tables e below (T27.setTop (mkF m 118 #[.val (.ref a1), .val (.int p2), .val (.int p3), .val (.int (f4 (p2).toNatClampNeg)), .val (.int (f1 (p3).toNatClampNeg))] [(.ref a1)])) _
      refine st29 _ ?_
      show Steps p.tables e below (T29.setTop (mkF m 121 #[.val (.ref a1), .val (.int p2), .val (.int p3), .val (.int (f4 (p2).toNatClampNeg)), .val (.int (f1 (p3).toNatClampNeg))] [(.ref r4)])) _
      refine XS.iloadN X29.here hx rfl (hb hby d5_121) rfl ?_
      show Steps p.tables e below (T29.setTop (mkF m 122 #[.val (.ref a1), .val (.int p2), .val (.int p3), .val (.int (f4 (p2).toNatClampNeg)), .val (.int (f1 (p3).toNatClampNeg))] [(.int p2), (.ref r4)])) _
      refine XS.iloadN X29.here hx rfl (hb hby d5_122) rfl ?_
      show Steps p.tables e below (T29.setTop (mkF m 123 #[.val (.ref a1), .val (.int p2), .val (.int p3), .val (.int (f4 (p2).toNatClampNeg)), .val (.int (f1 (p3).toNatClampNeg))] [(.int p3), (.int p2), (.ref r4)])) _
      refine st31 _ ?_
      show Steps p.tables e below (T31.setTop (mkF m 124 #[.val (.ref a1), .val (.int p2), .val (.int p3), .val (.int (f4 (p2).toNatClampNeg)), .val (.int (f1 (p3).toNatClampNeg))] [])) _
      refine XS.aloadN X31.here hx rfl (hb hby d5_124) rfl rfl ?_
      show Steps p.tables e below (T31.setTop (mkF m 125 #[.val (.ref a1), .val (.int p2), .val (.int p3), .val (.int (f4 (p2).toNatClampNeg)), .val (.int (f1 (p3).toNatClampNeg))] [(.ref a1)])) _
      refine XS.dup X31.here hx rfl (hb hby d5_125) rfl rfl ?_
      show Steps p.tables e below (T31.setTop (mkF m 126 #[.val (.ref a1), .val (.int p2), .val (.int p3), .val (.int (f4 (p2).toNatClampNeg)), .val (.int (f1 (p3).toNatClampNeg))] [(.ref a1), (.ref a1)])) _
      refine st33 _ ?_
      show Steps p.tables e below (T33.setTop (mkF m 129 #[.val (.ref a1), .val (.int p2), .val (.int p3), .val (.int (f4 (p2).toNatClampNeg)), .val (.int (f1 (p3).toNatClampNeg))] [(.int w), (.ref a1)])) _
      refine XS.iconst X33.here hx rfl (hb hby d5_129) ?_
      show Steps p.tables e below (T33.setTop (mkF m 130 #[.val (.ref a1), .val (.int p2), .val (.int p3), .val (.int (f4 (p2).toNatClampNeg)), .val (.int (f1 (p3).toNatClampNeg))] [(.int (1 : Int32)), (.int w), (.ref a1)])) _
      refine XS.iadd X33.here hx rfl (hb hby d5_130) rfl ?_
      show Steps p.tables e below (T33.setTop (mkF m 131 #[.val (.ref a1), .val (.int p2), .val (.int p3), .val (.int (f4 (p2).toNatClampNeg)), .val (.int (f1 (p3).toNatClampNeg))] [(.int (w + (1 : Int32))), (.ref a1)])) _
      refine st35 _ ?_
      show Steps p.tables e below (T35.setTop (mkF m 134 #[.val (.ref a1), .val (.int p2), .val (.int p3), .val (.int (f4 (p2).toNatClampNeg)), .val (.int (f1 (p3).toNatClampNeg))] [])) _
      exact X35.returnOut hx Bd.returns (hb hby d5_134) hr
    · show Q5 Z a1 p2 p3 r1 r2 r3 r4 z w f1 f2 f3 f4 h0 n0 _ T35.heap _
      rw [e35]
      have F38 := (((F26.other W27 (Or.inl ne_a1_r1)).other W31 (Or.inl ne_a1_r4)).other W35 (Or.inr (slot_ne (Or.inr (hw _ (List.mem_of_getElem? (i := 16) rfl))) (Or.inl (hw _ (List.mem_of_getElem? (i := 35) rfl))) (by decide) (t := (.array .int)) (t' := .int) (by decide) (by decide))))
      have F39 := ((((((F_a1_next.other W13 (Or.inl ne_a1_r2)).other W16 (Or.inl ne_a1_r3)).keep Kj19 (ninS ne_a1_r3 nin0)).other W27 (Or.inl ne_a1_r1)).other W31 (Or.inl ne_a1_r4)).other W35 (Or.inr (slot_ne (Or.inr (hw _ (List.mem_of_getElem? (i := 18) rfl))) (Or.inl (hw _ (List.mem_of_getElem? (i := 35) rfl))) (by decide) (t := (.array .int)) (t' := .int) (by decide) (by decide))))
      have F40 := (((((F15.other W16 (Or.inl ne_a1_r3)).keep Kj19 (ninS ne_a1_r3 nin0)).other W27 (Or.inl ne_a1_r1)).other W31 (Or.inl ne_a1_r4)).other W35 (Or.inr (slot_ne (Or.inr (hw _ (List.mem_of_getElem? (i := 20) rfl))) (Or.inl (hw _ (List.mem_of_getElem? (i := 35) rfl))) (by decide) (t := (.array .int)) (t' := .int) (by decide) (by decide))))
      have F41 := ((F30.other W31 (Or.inl ne_a1_r4)).other W35 (Or.inr (slot_ne (Or.inr (hw _ (List.mem_of_getElem? (i := 22) rfl))) (Or.inl (hw _ (List.mem_of_getElem? (i := 35) rfl))) (by decide) (t := (.array .int)) (t' := .int) (by decide) (by decide))))
      have F42 := ((((((F_a1_cursor.other W13 (Or.inl ne_a1_r2)).other W16 (Or.inl ne_a1_r3)).keep Kj19 (ninS ne_a1_r3 nin0)).other W27 (Or.inl ne_a1_r1)).other W31 (Or.inl ne_a1_r4)).other W35 (Or.inr (slot_ne (Or.inl (hw _ (List.mem_of_getElem? (i := 33) rfl))) (Or.inl (hw _ (List.mem_of_getElem? (i := 35) rfl))) (by decide) (t := .int) (t' := .int) (by decide) (by decide))))
      have F43 := ((V27.other W31 ne_r1_r4).other W35 (Ne.symm ne_a1_r1))
      have F44 := (((((V13.other W16 ne_r2_r3).keep Kj19 (ninS ne_r2_r3 nin0)).other W27 (Ne.symm ne_r1_r2)).other W31 ne_r2_r4).other W35 (Ne.symm ne_a1_r2))
      have F45 := (((P19_0.other W27 (Ne.symm ne_r1_r3)).other W31 ne_r3_r4).other W35 (Ne.symm ne_a1_r3))
      have F46 := (V31.other W35 (Ne.symm ne_a1_r4))
      exact ⟨(fun i => if i = (p3).toNatClampNeg then p2 else f1 i), (fun i => if i = (p2).toNatClampNeg then (f1 (p3).toNatClampNeg) else f2 i), (m5_19_0 p2 p3 f1 f3), (fun i => if i = (p2).toNatClampNeg then p3 else f4 i), (w + (1 : Int32)), rfl, N35, K35, F38, F39, F40, F41, F42, Fw35, F43, F44, F45, F46, (own_push hI (own_range hn).1 hc9 hkr.1 hkr.2 (fun j => by rw [← (own_range hn).2]) (fun j => rfl) (fun j => by rw [← (own_range hn).2]; simp only [m5_19_0]; by_cases q : f1 p3.toNatClampNeg = -1 <;> by_cases q3 : j = (f1 p3.toNatClampNeg).toNatClampNeg <;> simp [q, q3]) (fun j => rfl)), (fun i _ => own_noteY f4 p2 p3 (Or.inl (by rw [hc9]; decide)) i)⟩
  · have pre47 : ∀ t, Steps p.tables e below (T6.setTop (mkF m 53 #[.val (.ref a1), .val (.int p2), .val (.int p3), .val (.int (f4 (p2).toNatClampNeg)), .unset] [(.int p3), (.int (f4 (p2).toNatClampNeg))])) t → Steps p.tables e below (s₁.setTop (entryFrame m #[(.ref a1), (.int p2), (.int p3)] 5)) t := fun t k => pre8 t (by
      show Steps p.tables e below (T6.setTop (mkF m 48 #[.val (.ref a1), .val (.int p2), .val (.int p3), .val (.int (f4 (p2).toNatClampNeg)), .unset] [(.int (-1 : Int32)), (.int (f4 (p2).toNatClampNeg))])) _
      refine XS.icmpNo X6.here hx rfl (hb hby d5_48) rfl (feq hc9).1 ?_
      show Steps p.tables e below (T6.setTop (mkF m 51 #[.val (.ref a1), .val (.int p2), .val (.int p3), .val (.int (f4 (p2).toNatClampNeg)), .unset] [])) _
      refine XS.iloadN X6.here hx rfl (hb hby d5_51) rfl ?_
      show Steps p.tables e below (T6.setTop (mkF m 52 #[.val (.ref a1), .val (.int p2), .val (.int p3), .val (.int (f4 (p2).toNatClampNeg)), .unset] [(.int (f4 (p2).toNatClampNeg))])) _
      refine XS.iloadN X6.here hx rfl (hb hby d5_52) rfl ?_
      exact k)
    by_cases hc48 : p3 < (f4 (p2).toNatClampNeg)
    · obtain ⟨cq49, q49, q49'⟩ := E_a1.cell
      obtain ⟨_, _, ⟨T49, L49, k49, n49⟩, -, X49, ⟨Lc49, hQ49, l49, y49, z49⟩, st49⟩ := X6.privateBack hx (y := (⟨"com/example/hindsight/hindsight/solvers/BucketQueue", "unlink", "(II)V"⟩ : MethodName)) hown (mvT hZ (hw _ (List.mem_of_getElem? (i := 47) rfl))) (mvT hZ (hw _ (List.mem_of_getElem? (i := 48) rfl))) (own_selp (y0 := (⟨"com/example/hindsight/hindsight/solvers/BucketQueue", "offer", "(II)V"⟩ : MethodName)) (mvT hZ (hw _ (List.mem_of_getElem? (i := 30) rfl))) rfl (Cond.privateMethod_at (mvP hZ (hw _ (List.mem_of_getElem? (i := 49) rfl)) (args := #[]))) (mvT hZ (hw _ (List.mem_of_getElem? (i := 48) rfl))) (by decide)) (Cond.privateMethod_at (mvP hZ (hw _ (List.mem_of_getElem? (i := 49) rfl)) (args := #[]))) (mvT hZ (hw _ (List.mem_of_getElem? (i := 50) rfl))) (by decide) (backOf (W := 0) (rm8 l Z a0 hw [] a1 p2 (f4 (p2).toNatClampNeg) r1 r2 r3 r4 z w (0 : Int32) f1 f2 f3 f4 h0 n0 Z0 E_a1 F_a1_first F_a1_next F_a1_previous F_a1_keyOf F_a1_cursor F_a1_size V_r1 V_r2 V_r3 V_r4 g_a1 g_r1 g_r2 g_r3 g_r4 ne_a1_r1 ne_a1_r2 ne_a1_r3 ne_a1_r4 ne_r1_r2 ne_r1_r3 ne_r1_r4 ne_r2_r3 ne_r2_r4 ne_r3_r4 (hI) (hn) (rfl) (hc9)) hZ (hw _ (List.mem_of_getElem? (i := 50) rfl)) (hw _ (List.mem_of_getElem? (i := 8) rfl)) (by decide) (by decide)) (g := (mkF m 60 #[.val (.ref a1), .val (.int p2), .val (.int p3), .val (.int (f4 (p2).toNatClampNeg)), .unset] [(.int (f4 (p2).toNatClampNeg)), (.int p2), (.ref a1)])) rfl (by rw [hml]; rfl) (Steps.refl _) (a := a1) (by rw [e6]; exact q49) q49' (argsL := [(.int p2), (.int (f4 (p2).toNatClampNeg))]) (rest := []) (lenOf pd_2 rfl) rfl (by show 2 * 0 + _ ≤ _; exact Nat.le_of_eq rfl) (hb hby d5_60) (fun _ _ => ⟨rfl, e6, (by decide : 0 + 0 ≤ _), (by decide : 0 + 0 ≤ _)⟩)
      dsimp only [Pt.U, Pt.locs, Pt.cells, Pt.slots] at X49 l49 y49 z49 st49 hQ49
      first | rw [l49, y49, z49] at X49 | subst l49 y49 z49
      obtain ⟨g1_49, g2_49, g3_49, g4_49, rfl, N49q, K49, P49_0, P49_1, P49_2, P49_3, P49_4, P49_5⟩ := hQ49
      have K50 : Keep h0 T49.heap [a1, r1, r2, r3, r4] := (Keep.refl h0 [a1, r1, r2, r3, r4]).trans K49 (allS (Or.inl (List.mem_of_getElem? (i := 1) rfl)) (allS (Or.inl (List.mem_of_getElem? (i := 2) rfl)) (allS (Or.inl (List.mem_of_getElem? (i := 3) rfl)) (allS (Or.inl (List.mem_of_getElem? (i := 4) rfl)) all0))))
      have N49 := Fr.app N0 N49q
      have F52 := (F_a1_size.keep K49 (ninS ne_a1_r1 (ninS ne_a1_r2 (ninS ne_a1_r3 (ninS ne_a1_r4 nin0)))))
      obtain ⟨T51, X51, e51, st51⟩ := getF X49 hx hZ hown (host := "") (Or.inl (hw _ (List.mem_of_getElem? (i := 34) rfl))) Via.refl rfl F52 (g := (mkF m 65 #[.val (.ref a1), .val (.int p2), .val (.int p3), .val (.int (f4 (p2).toNatClampNeg)), .unset] [(.ref a1), (.ref a1)])) rfl rfl (hb hby d5_65)
      have F54 := (E_a1.keep K49)
      obtain ⟨T53, h53, X53, e53, W53, st53⟩ := putF X51 hx hZ hown (host := "") (Or.inl (hw _ (List.mem_of_getElem? (i := 34) rfl))) Via.refl e51 F52 F54 (Or.inl (hw _ (List.mem_of_getElem? (i := 35) rfl))) (hw _ (List.mem_of_getElem? (i := 7) rfl)) (ty := .int) (by decide) rfl rfl (g := (mkF m 70 #[.val (.ref a1), .val (.int p2), .val (.int p3), .val (.int (f4 (p2).toNatClampNeg)), .unset] [(.int (w - (1 : Int32))), (.ref a1)])) rfl rfl (hb hby d5_70)
      have Fw53 := F52.same W53
      have K53 : Keep h0 h53 [a1, r1, r2, r3, r4] := K50.wr W53 (Or.inl (List.mem_of_getElem? (i := 0) rfl))
      have N53 := Fr.snoc X53 N49 g_a1
      have F56 := ((F_a1_first.keep K49 (ninS ne_a1_r1 (ninS ne_a1_r2 (ninS ne_a1_r3 (ninS ne_a1_r4 nin0))))).other W53 (Or.inr (slot_ne (Or.inr (hw _ (List.mem_of_getElem? (i := 16) rfl))) (Or.inl (hw _ (List.mem_of_getElem? (i := 35) rfl))) (by decide) (t := (.array .int)) (t' := .int) (by decide) (by decide))))
      obtain ⟨T55, X55, e55, st55⟩ := getF X53 hx hZ hown (host := "") (Or.inl (hw _ (List.mem_of_getElem? (i := 15) rfl))) Via.refl e53 F56 (g := (mkF m 74 #[.val (.ref a1), .val (.int p2), .val (.int p3), .val (.int (f4 (p2).toNatClampNeg)), .unset] [(.ref a1)])) rfl rfl (hb hby d5_74)
      have F58 := (P49_0.other W53 (Ne.symm ne_a1_r1))
      obtain ⟨cl57, A57, S57, M57, G57⟩ := id F58
      have hin57 : ¬ (p3 < 0 ∨ cl57.slots.size ≤ (p3).toNatClampNeg) := inb_of S57 (own_ij2 hkr)
      have hat57 : cl57.slots[(p3).toNatClampNeg]? = some (.int (g1_49 (p3).toNatClampNeg)) := AI.at S57 G57 hin57
      have F60 := ((F_a1_next.keep K49 (ninS ne_a1_r1 (ninS ne_a1_r2 (ninS ne_a1_r3 (ninS ne_a1_r4 nin0))))).other W53 (Or.inr (slot_ne (Or.inr (hw _ (List.mem_of_getElem? (i := 18) rfl))) (Or.inl (hw _ (List.mem_of_getElem? (i := 35) rfl))) (by decide) (t := (.array .int)) (t' := .int) (by decide) (by decide))))
      obtain ⟨T59, X59, e59, st59⟩ := getF X55 hx hZ hown (host := "") (Or.inl (hw _ (List.mem_of_getElem? (i := 17) rfl))) Via.refl e55 F60 (g := (mkF m 82 #[.val (.ref a1), .val (.int p2), .val (.int p3), .val (.int (f4 (p2).toNatClampNeg)), .val (.int (g1_49 (p3).toNatClampNeg))] [(.ref a1)])) rfl rfl (hb hby d5_82)
      have F62 := (P49_1.other W53 (Ne.symm ne_a1_r2))
      obtain ⟨cl61, A61, S61, M61, G61⟩ := id F62
      have hin61 : ¬ (p2 < 0 ∨ cl61.slots.size ≤ (p2).toNatClampNeg) := inb_of S61 (hn)
      obtain ⟨T61, h61, X61, e61, W61, st61⟩ := stI X59 hx hZ e59 A61 (j := p2) hin61 (g := (mkF m 88 #[.val (.ref a1), .val (.int p2), .val (.int p3), .val (.int (f4 (p2).toNatClampNeg)), .val (.int (g1_49 (p3).toNatClampNeg))] [(.int (g1_49 (p3).toNatClampNeg)), (.int p2), (.ref r2)])) rfl rfl (hb hby d5_88)
      have V61 : AI Z h61 r2 .int (3 : Int32) (fun i => if i = (p2).toNatClampNeg then (g1_49 (p3).toNatClampNeg) else g2_49 i) := AI.set A61 S61 M61 G61 W61
      have K61 : Keep h0 h61 [a1, r1, r2, r3, r4] := K53.wr W61 (Or.inl (List.mem_of_getElem? (i := 2) rfl))
      have N61 := Fr.snoc X61 N53 g_r2
      have F64 := (((F_a1_previous.keep K49 (ninS ne_a1_r1 (ninS ne_a1_r2 (ninS ne_a1_r3 (ninS ne_a1_r4 nin0))))).other W53 (Or.inr (slot_ne (Or.inr (hw _ (List.mem_of_getElem? (i := 20) rfl))) (Or.inl (hw _ (List.mem_of_getElem? (i := 35) rfl))) (by decide) (t := (.array .int)) (t' := .int) (by decide) (by decide)))).other W61 (Or.inl ne_a1_r2))
      obtain ⟨T63, X63, e63, st63⟩ := getF X61 hx hZ hown (host := "") (Or.inl (hw _ (List.mem_of_getElem? (i := 19) rfl))) Via.refl e61 F64 (g := (mkF m 90 #[.val (.ref a1), .val (.int p2), .val (.int p3), .val (.int (f4 (p2).toNatClampNeg)), .val (.int (g1_49 (p3).toNatClampNeg))] [(.ref a1)])) rfl rfl (hb hby d5_90)
      have F66 := ((P49_2.other W53 (Ne.symm ne_a1_r3)).other W61 (Ne.symm ne_r2_r3))
      obtain ⟨cl65, A65, S65, M65, G65⟩ := id F66
      have hin65 : ¬ (p2 < 0 ∨ cl65.slots.size ≤ (p2).toNatClampNeg) := inb_of S65 (hn)
      obtain ⟨T65, h65, X65, e65, W65, st65⟩ := stI X63 hx hZ e63 A65 (j := p2) hin65 (g := (mkF m 95 #[.val (.ref a1), .val (.int p2), .val (.int p3), .val (.int (f4 (p2).toNatClampNeg)), .val (.int (g1_49 (p3).toNatClampNeg))] [(.int (-1 : Int32)), (.int p2), (.ref r3)])) rfl rfl (hb hby d5_95)
      have V65 : AI Z h65 r3 .int (3 : Int32) (fun i => if i = (p2).toNatClampNeg then (-1 : Int32) else g3_49 i) := AI.set A65 S65 M65 G65 W65
      have K65 : Keep h0 h65 [a1, r1, r2, r3, r4] := K61.wr W65 (Or.inl (List.mem_of_getElem? (i := 3) rfl))
      have N65 := Fr.snoc X65 N61 g_r3
      have pre67 : ∀ t, Steps p.tables e below (T65.setTop (mkF m 99 #[.val (.ref a1), .val (.int p2), .val (.int p3), .val (.int (f4 (p2).toNatClampNeg)), .val (.int (g1_49 (p3).toNatClampNeg))] [(.int (-1 : Int32)), (.int (g1_49 (p3).toNatClampNeg))])) t → Steps p.tables e below (s₁.setTop (entryFrame m #[(.ref a1), (.int p2), (.int p3)] 5)) t := fun t k => pre47 t (by
        show Steps p.tables e below (T6.setTop (mkF m 53 #[.val (.ref a1), .val (.int p2), .val (.int p3), .val (.int (f4 (p2).toNatClampNeg)), .unset] [(.int p3), (.int (f4 (p2).toNatClampNeg))])) _
        refine XS.icmpYes X6.here hx rfl (pc0 := 53) (pc' := 57) rfl (hb hby d5_53) rfl (tlt hc48).2.2.1 (by decide) (by decide) ?_
        show Steps p.tables e below (T6.setTop (mkF m 57 #[.val (.ref a1), .val (.int p2), .val (.int p3), .val (.int (f4 (p2).toNatClampNeg)), .unset] [])) _
        refine XS.aloadN X6.here hx rfl (hb hby d5_57) rfl rfl ?_
        show Steps p.tables e below (T6.setTop (mkF m 58 #[.val (.ref a1), .val (.int p2), .val (.int p3), .val (.int (f4 (p2).toNatClampNeg)), .unset] [(.ref a1)])) _
        refine XS.iloadN X6.here hx rfl (hb hby d5_58) rfl ?_
        show Steps p.tables e below (T6.setTop (mkF m 59 #[.val (.ref a1), .val (.int p2), .val (.int p3), .val (.int (f4 (p2).toNatClampNeg)), .unset] [(.int p2), (.ref a1)])) _
        refine XS.iloadN X6.here hx rfl (hb hby d5_59) rfl ?_
        show Steps p.tables e below (T6.setTop (mkF m 60 #[.val (.ref a1), .val (.int p2), .val (.int p3), .val (.int (f4 (p2).toNatClampNeg)), .unset] [(.int (f4 (p2).toNatClampNeg)), (.int p2), (.ref a1)])) _
        refine st49.trans ?_
        show Steps p.tables e below (T49.setTop (mkF m 63 #[.val (.ref a1), .val (.int p2), .val (.int p3), .val (.int (f4 (p2).toNatClampNeg)), .unset] [])) _
        refine XS.aloadN X49.here hx rfl (hb hby d5_63) rfl rfl ?_
        show Steps p.tables e below (T49.setTop (mkF m 64 #[.val (.ref a1), .val (.int p2), .val (.int p3), .val (.int (f4 (p2).toNatClampNeg)), .unset] [(.ref a1)])) _
        refine XS.dup X49.here hx rfl (hb hby d5_64) rfl rfl ?_
        show Steps p.tables e below (T49.setTop (mkF m 65 #[.val (.ref a1), .val (.int p2), .val (.int p3), .val (.int (f4 (p2).toNatClampNeg)), .unset] [(.ref a1), (.ref a1)])) _
        refine st51 _ ?_
        show Steps p.tables e below (T51.setTop (mkF m 68 #[.val (.ref a1), .val (.int p2), .val (.int p3), .val (.int (f4 (p2).toNatClampNeg)), .unset] [(.int w), (.ref a1)])) _
        refine XS.iconst X51.here hx rfl (hb hby d5_68) ?_
        show Steps p.tables e below (T51.setTop (mkF m 69 #[.val (.ref a1), .val (.int p2), .val (.int p3), .val (.int (f4 (p2).toNatClampNeg)), .unset] [(.int (1 : Int32)), (.int w), (.ref a1)])) _
        refine XS.isub X51.here hx rfl (hb hby d5_69) rfl ?_
        show Steps p.tables e below (T51.setTop (mkF m 70 #[.val (.ref a1), .val (.int p2), .val (.int p3), .val (.int (f4 (p2).toNatClampNeg)), .unset] [(.int (w - (1 : Int32))), (.ref a1)])) _
        refine st53 _ ?_
        show Steps p.tables e below (T53.setTop (mkF m 73 #[.val (.ref a1), .val (.int p2), .val (.int p3), .val (.int (f4 (p2).toNatClampNeg)), .unset] [])) _
        refine XS.aloadN X53.here hx rfl (hb hby d5_73) rfl rfl ?_
        show Steps p.tables e below (T53.setTop (mkF m 74 #[.val (.ref a1), .val (.int p2), .val (.int p3), .val (.int (f4 (p2).toNatClampNeg)), .unset] [(.ref a1)])) _
        refine st55 _ ?_
        show Steps p.tables e below (T55.setTop (mkF m 77 #[.val (.ref a1), .val (.int p2), .val (.int p3), .val (.int (f4 (p2).toNatClampNeg)), .unset] [(.ref r1)])) _
        refine XS.iloadN X55.here hx rfl (hb hby d5_77) rfl ?_
        show Steps p.tables e below (T55.setTop (mkF m 78 #[.val (.ref a1), .val (.int p2), .val (.int p3), .val (.int (f4 (p2).toNatClampNeg)), .unset] [(.int p3), (.ref r1)])) _
        refine X55.iaload hx (j := p3) (v := (.int (g1_49 (p3).toNatClampNeg))) (by rw [e55]; exact A57.1) (State.isArrayOf_alike hZ.alike A57.2.1) A57.2.2 hin57 hat57 (g := (mkF m 78 #[.val (.ref a1), .val (.int p2), .val (.int p3), .val (.int (f4 (p2).toNatClampNeg)), .unset] [(.int p3), (.ref r1)])) rfl rfl (hb hby d5_78) _ ?_
        show Steps p.tables e below (T55.setTop (mkF m 79 #[.val (.ref a1), .val (.int p2), .val (.int p3), .val (.int (f4 (p2).toNatClampNeg)), .unset] [(.int (g1_49 (p3).toNatClampNeg))])) _
        refine XS.istore X55.here hx rfl (hb hby d5_79) rfl (l' := #[.val (.ref a1), .val (.int p2), .val (.int p3), .val (.int (f4 (p2).toNatClampNeg)), .val (.int (g1_49 (p3).toNatClampNeg))]) rfl ?_
        show Steps p.tables e below (T55.setTop (mkF m 81 #[.val (.ref a1), .val (.int p2), .val (.int p3), .val (.int (f4 (p2).toNatClampNeg)), .val (.int (g1_49 (p3).toNatClampNeg))] [])) _
        refine XS.aloadN X55.here hx rfl (hb hby d5_81) rfl rfl ?_
        show Steps p.tables e below (T55.setTop (mkF m 82 #[.val (.ref a1), .val (.int p2), .val (.int p3), .val (.int (f4 (p2).toNatClampNeg)), .val (.int (g1_49 (p3).toNatClampNeg))] [(.ref a1)])) _
        refine st59 _ ?_
        show Steps p.tables e below (T59.setTop (mkF m 85 #[.val (.ref a1), .val (.int p2), .val (.int p3), .val (.int (f4 (p2).toNatClampNeg)), .val (.int (g1_49 (p3).toNatClampNeg))] [(.ref r2)])) _
        refine XS.iloadN X59.here hx rfl (hb hby d5_85) rfl ?_
        show Steps p.tables e below (T59.setTop (mkF m 86 #[.val (.ref a1), .val (.int p2), .val (.int p3), .val (.int (f4 (p2).toNatClampNeg)), .val (.int (g1_49 (p3).toNatClampNeg))] [(.int p2), (.ref r2)])) _
        refine XS.iload X59.here hx rfl (hb hby d5_86) rfl ?_
        show Steps p.tables e below (T59.setTop (mkF m 88 #[.val (.ref a1), .val (.int p2), .val (.int p3), .val (.int (f4 (p2).toNatClampNeg)), .val (.int (g1_49 (p3).toNatClampNeg))] [(.int (g1_49 (p3).toNatClampNeg)), (.int p2), (.ref r2)])) _
        refine st61 _ ?_
        show Steps p.tables e below (T61.setTop (mkF m 89 #[.val (.ref a1), .val (.int p2), .val (.int p3), .val (.int (f4 (p2).toNatClampNeg)), .val (.int (g1_49 (p3).toNatClampNeg))] [])) _
        refine XS.aloadN X61.here hx rfl (hb hby d5_89) rfl rfl ?_
        show Steps p.tables e below (T61.setTop (mkF m 90 #[.val (.ref a1), .val (.int p2), .val (.int p3), .val (.int (f4 (p2).toNatClampNeg)), .val (.int (g1_49 (p3).toNatClampNeg))] [(.ref a1)])) _
        refine st63 _ ?_
        show Steps p.tables e below (T63.setTop (mkF m 93 #[.val (.ref a1), .val (.int p2), .val (.int p3), .val (.int (f4 (p2).toNatClampNeg)), .val (.int (g1_49 (p3).toNatClampNeg))] [(.ref r3)])) _
        refine XS.iloadN X63.here hx rfl (hb hby d5_93) rfl ?_
        show Steps p.tables e below (T63.setTop (mkF m 94 #[.val (.ref a1), .val (.int p2), .val (.int p3), .val (.int (f4 (p2).toNatClampNeg)), .val (.int (g1_49 (p3).toNatClampNeg))] [(.int p2), (.ref r3)])) _
        refine XS.iconst X63.here hx rfl (hb hby d5_94) ?_
        show Steps p.tables e below (T63.setTop (mkF m 95 #[.val (.ref a1), .val (.int p2), .val (.int p3), .val (.int (f4 (p2).toNatClampNeg)), .val (.int (g1_49 (p3).toNatClampNeg))] [(.int (-1 : Int32)), (.int p2), (.ref r3)])) _
        refine st65 _ ?_
        show Steps p.tables e below (T65.setTop (mkF m 96 #[.val (.ref a1), .val (.int p2), .val (.int p3), .val (.int (f4 (p2).toNatClampNeg)), .val (.int (g1_49 (p3).toNatClampNeg))] [])) _
        refine XS.iload X65.here hx rfl (hb hby d5_96) rfl ?_
        show Steps p.tables e below (T65.setTop (mkF m 98 #[.val (.ref a1), .val (.int p2), .val (.int p3), .val (.int (f4 (p2).toNatClampNeg)), .val (.int (g1_49 (p3).toNatClampNeg))] [(.int (g1_49 (p3).toNatClampNeg))])) _
        refine XS.iconst X65.here hx rfl (hb hby d5_98) ?_
        exact k)
      obtain ⟨T68, locs68, h68, X68, e68, N68, Kj68, P68_0, pre68⟩ : ∃ (T' : State) (locs' : List Loc) (h' : Heap), Stand p l e ({ frames := 1, cells := 0, slots := 0, locals := 16 } : Room) s m #[(.ref a1), (.int p2), (.int p3)] below meth c T' locs' 0 0 ∧ T'.heap = h' ∧ Fr n0 locs' ∧ Keep h65 h' [r3] ∧ AI Z h' r3 .int (3 : Int32) (m5_68_0 p2 p3 g1_49 g3_49) ∧ ∀ t, Steps p.tables e below (T'.setTop (mkF m 110 #[.val (.ref a1), .val (.int p2), .val (.int p3), .val (.int (f4 (p2).toNatClampNeg)), .val (.int (g1_49 (p3).toNatClampNeg))] [])) t → Steps p.tables e below (s₁.setTop (entryFrame m #[(.ref a1), (.int p2), (.int p3)] 5)) t := by
        by_cases hc69 : (g1_49 (p3).toNatClampNeg) = (-1 : Int32)
        · exact ⟨_, _, _, X65, e65, N65, (Keep.refl _ [r3]), (by rw [show (m5_68_0 p2 p3 g1_49 g3_49) = (fun i => if i = (p2).toNatClampNeg then (-1 : Int32) else g3_49 i) from by first | (rw [m5_68_0, if_pos hc69]; done) | (simp only [m5_68_0, if_pos hc69]; done) | rfl]; exact V65), fun t k => pre67 t (by
            show Steps p.tables e below (T65.setTop (mkF m 99 #[.val (.ref a1), .val (.int p2), .val (.int p3), .val (.int (f4 (p2).toNatClampNeg)), .val (.int (g1_49 (p3).toNatClampNeg))] [(.int (-1 : Int32)), (.int (g1_49 (p3).toNatClampNeg))])) _
            refine XS.icmpYes X65.here hx rfl (pc0 := 99) (pc' := 110) rfl (hb hby d5_99) rfl (teq hc69).1 (by decide) (by decide) ?_
            exact k)⟩
        · have F71 := (F64.other W65 (Or.inl ne_a1_r3))
          obtain ⟨T70, X70, e70, st70⟩ := getF X65 hx hZ hown (host := "") (Or.inl (hw _ (List.mem_of_getElem? (i := 19) rfl))) Via.refl e65 F71 (g := (mkF m 103 #[.val (.ref a1), .val (.int p2), .val (.int p3), .val (.int (f4 (p2).toNatClampNeg)), .val (.int (g1_49 (p3).toNatClampNeg))] [(.ref a1)])) rfl rfl (hb hby d5_103)
          obtain ⟨cl72, A72, S72, M72, G72⟩ := id V65
          have hin72 : ¬ ((g1_49 (p3).toNatClampNeg) < 0 ∨ cl72.slots.size ≤ ((g1_49 (p3).toNatClampNeg)).toNatClampNeg) := inb_of S72 ((own_hd P49_4 hkr.1 hkr.2 hc69).1)
          obtain ⟨T72, h72, X72, e72, W72, st72⟩ := stI X70 hx hZ e70 A72 (j := (g1_49 (p3).toNatClampNeg)) hin72 (g := (mkF m 109 #[.val (.ref a1), .val (.int p2), .val (.int p3), .val (.int (f4 (p2).toNatClampNeg)), .val (.int (g1_49 (p3).toNatClampNeg))] [(.int p2), (.int (g1_49 (p3).toNatClampNeg)), (.ref r3)])) rfl rfl (hb hby d5_109)
          have V72 : AI Z h72 r3 .int (3 : Int32) (fun i => if i = ((g1_49 (p3).toNatClampNeg)).toNatClampNeg then p2 else (fun i => if i = (p2).toNatClampNeg then (-1 : Int32) else g3_49 i) i) := AI.set A72 S72 M72 G72 W72
          have K72 : Keep h0 h72 [a1, r1, r2, r3, r4] := K65.wr W72 (Or.inl (List.mem_of_getElem? (i := 3) rfl))
          have N72 := Fr.snoc X72 N65 g_r3
          exact ⟨_, _, _, X72, e72, N72, ((Keep.refl _ [r3]).wr W72 (Or.inl (List.mem_of_getElem? (i := 0) rfl))), (by rw [show (m5_68_0 p2 p3 g1_49 g3_49) = (fun i => if i = ((g1_49 (p3).toNatClampNeg)).toNatClampNeg then p2 else (fun i => if i = (p2).toNatClampNeg then (-1 : Int32) else g3_49 i) i) from by first | (rw [m5_68_0, if_neg hc69]; done) | (simp only [m5_68_0, if_neg hc69]; done) | rfl]; exact V72), fun t k => pre67 t (by
            show Steps p.tables e below (T65.setTop (mkF m 99 #[.val (.ref a1), .val (.int p2), .val (.int p3), .val (.int (f4 (p2).toNatClampNeg)), .val (.int (g1_49 (p3).toNatClampNeg))] [(.int (-1 : Int32)), (.int (g1_49 (p3).toNatClampNeg))])) _
            refine XS.icmpNo X65.here hx rfl (hb hby d5_99) rfl (feq hc69).1 ?_
            show Steps p.tables e below (T65.setTop (mkF m 102 #[.val (.ref a1), .val (.int p2), .val (.int p3), .val (.int (f4 (p2).toNatClampNeg)), .val (.int (g1_49 (p3).toNatClampNeg))] [])) _
            refine XS.aloadN X65.here hx rfl (hb hby d5_102) rfl rfl ?_
            show Steps p.tables e below (T65.setTop (mkF m 103 #[.val (.ref a1), .val (.int p2), .val (.int p3), .val (.int (f4 (p2).toNatClampNeg)), .val (.int (g1_49 (p3).toNatClampNeg))] [(.ref a1)])) _
            refine st70 _ ?_
            show Steps p.tables e below (T70.setTop (mkF m 106 #[.val (.ref a1), .val (.int p2), .val (.int p3), .val (.int (f4 (p2).toNatClampNeg)), .val (.int (g1_49 (p3).toNatClampNeg))] [(.ref r3)])) _
            refine XS.iload X70.here hx rfl (hb hby d5_106) rfl ?_
            show Steps p.tables e below (T70.setTop (mkF m 108 #[.val (.ref a1), .val (.int p2), .val (.int p3), .val (.int (f4 (p2).toNatClampNeg)), .val (.int (g1_49 (p3).toNatClampNeg))] [(.int (g1_49 (p3).toNatClampNeg)), (.ref r3)])) _
            refine XS.iloadN X70.here hx rfl (hb hby d5_108) rfl ?_
            show Steps p.tables e below (T70.setTop (mkF m 109 #[.val (.ref a1), .val (.int p2), .val (.int p3), .val (.int (f4 (p2).toNatClampNeg)), .val (.int (g1_49 (p3).toNatClampNeg))] [(.int p2), (.int (g1_49 (p3).toNatClampNeg)), (.ref r3)])) _
            refine st72 _ ?_
            exact k)⟩
      have K73 : Keep h0 h68 [a1, r1, r2, r3, r4] := K65.trans Kj68 (allS (Or.inl (List.mem_of_getElem? (i := 3) rfl)) all0)
      have F75 := (((F56.other W61 (Or.inl ne_a1_r2)).other W65 (Or.inl ne_a1_r3)).keep Kj68 (ninS ne_a1_r3 nin0))
      obtain ⟨T74, X74, e74, st74⟩ := getF X68 hx hZ hown (host := "") (Or.inl (hw _ (List.mem_of_getElem? (i := 15) rfl))) Via.refl e68 F75 (g := (mkF m 111 #[.val (.ref a1), .val (.int p2), .val (.int p3), .val (.int (f4 (p2).toNatClampNeg)), .val (.int (g1_49 (p3).toNatClampNeg))] [(.ref a1)])) rfl rfl (hb hby d5_111)
      have F77 := (((F58.other W61 ne_r1_r2).other W65 ne_r1_r3).keep Kj68 (ninS ne_r1_r3 nin0))
      obtain ⟨cl76, A76, S76, M76, G76⟩ := id F77
      have hin76 : ¬ (p3 < 0 ∨ cl76.slots.size ≤ (p3).toNatClampNeg) := inb_of S76 (own_ij2 hkr)
      obtain ⟨T76, h76, X76, e76, W76, st76⟩ := stI X74 hx hZ e74 A76 (j := p3) hin76 (g := (mkF m 116 #[.val (.ref a1), .val (.int p2), .val (.int p3), .val (.int (f4 (p2).toNatClampNeg)), .val (.int (g1_49 (p3).toNatClampNeg))] [(.int p2), (.int p3), (.ref r1)])) rfl rfl (hb hby d5_116)
      have V76 : AI Z h76 r1 .int z (fun i => if i = (p3).toNatClampNeg then p2 else g1_49 i) := AI.set A76 S76 M76 G76 W76
      have K76 : Keep h0 h76 [a1, r1, r2, r3, r4] := K73.wr W76 (Or.inl (List.mem_of_getElem? (i := 1) rfl))
      have N76 := Fr.snoc X76 N68 g_r1
      have F79 := ((((((F_a1_keyOf.keep K49 (ninS ne_a1_r1 (ninS ne_a1_r2 (ninS ne_a1_r3 (ninS ne_a1_r4 nin0))))).other W53 (Or.inr (slot_ne (Or.inr (hw _ (List.mem_of_getElem? (i := 22) rfl))) (Or.inl (hw _ (List.mem_of_getElem? (i := 35) rfl))) (by decide) (t := (.array .int)) (t' := .int) (by decide) (by decide)))).other W61 (Or.inl ne_a1_r2)).other W65 (Or.inl ne_a1_r3)).keep Kj68 (ninS ne_a1_r3 nin0)).other W76 (Or.inl ne_a1_r1))
      obtain ⟨T78, X78, e78, st78⟩ := getF X76 hx hZ hown (host := "") (Or.inl (hw _ (List.mem_of_getElem? (i := 21) rfl))) Via.refl e76 F79 (g := (mkF m 118 #[.val (.ref a1), .val (.int p2), .val (.int p3), .val (.int (f4 (p2).toNatClampNeg)), .val (.int (g1_49 (p3).toNatClampNeg))] [(.ref a1)])) rfl rfl (hb hby d5_118)
      have F81 := (((((P49_3.other W53 (Ne.symm ne_a1_r4)).other W61 (Ne.symm ne_r2_r4)).other W65 (Ne.symm ne_r3_r4)).keep Kj68 (ninS (Ne.symm ne_r3_r4) nin0)).other W76 (Ne.symm ne_r1_r4))
      obtain ⟨cl80, A80, S80, M80, G80⟩ := id F81
      have hin80 : ¬ (p2 < 0 ∨ cl80.slots.size ≤ (p2).toNatClampNeg) := inb_of S80 (hn)
      obtain ⟨T80, h80, X80, e80, W80, st80⟩ := stI X78 hx hZ e78 A80 (j := p2) hin80 (g := (mkF m 123 #[.val (.ref a1), .val (.int p2), .val (.int p3), .val (.int (f4 (p2).toNatClampNeg)), .val (.int (g1_49 (p3).toNatClampNeg))] [(.int p3), (.int p2), (.ref r4)])) rfl rfl (hb hby d5_123)
      have V80 : AI Z h80 r4 .int (3 : Int32) (fun i => if i = (p2).toNatClampNeg then p3 else g4_49 i) := AI.set A80 S80 M80 G80 W80
      have K80 : Keep h0 h80 [a1, r1, r2, r3, r4] := K76.wr W80 (Or.inl (List.mem_of_getElem? (i := 4) rfl))
      have N80 := Fr.snoc X80 N76 g_r4
      have F83 := (((((Fw53.other W61 (Or.inl ne_a1_r2)).other W65 (Or.inl ne_a1_r3)).keep Kj68 (ninS ne_a1_r3 nin0)).other W76 (Or.inl ne_a1_r1)).other W80 (Or.inl ne_a1_r4))
      obtain ⟨T82, X82, e82, st82⟩ := getF X80 hx hZ hown (host := "") (Or.inl (hw _ (List.mem_of_getElem? (i := 34) rfl))) Via.refl e80 F83 (g := (mkF m 126 #[.val (.ref a1), .val (.int p2), .val (.int p3), .val (.int (f4 (p2).toNatClampNeg)), .val (.int (g1_49 (p3).toNatClampNeg))] [(.ref a1), (.ref a1)])) rfl rfl (hb hby d5_126)
      have F85 := ((((((F54.wr W53).wr W61).wr W65).keep Kj68).wr W76).wr W80)
      obtain ⟨T84, h84, X84, e84, W84, st84⟩ := putF X82 hx hZ hown (host := "") (Or.inl (hw _ (List.mem_of_getElem? (i := 34) rfl))) Via.refl e82 F83 F85 (Or.inl (hw _ (List.mem_of_getElem? (i := 35) rfl))) (hw _ (List.mem_of_getElem? (i := 7) rfl)) (ty := .int) (by decide) rfl rfl (g := (mkF m 131 #[.val (.ref a1), .val (.int p2), .val (.int p3), .val (.int (f4 (p2).toNatClampNeg)), .val (.int (g1_49 (p3).toNatClampNeg))] [(.int ((w - (1 : Int32)) + (1 : Int32))), (.ref a1)])) rfl rfl (hb hby d5_131)
      have Fw84 := F83.same W84
      have K84 : Keep h0 h84 [a1, r1, r2, r3, r4] := K80.wr W84 (Or.inl (List.mem_of_getElem? (i := 0) rfl))
      have N84 := Fr.snoc X84 N80 g_a1
      obtain ⟨fs, hr, hrun, hended, hW, hsame⟩ := X84.leave (v := none) (fun _ => rfl) hlk
      refine ⟨_, _, pre68 _ ?_, hrun, hended, _, _, rfl, ?_, ⟨_, rfl⟩, hW, hsame.mono (by decide) (by decide)⟩
      · show Steps p.tables e below (T68.setTop (mkF m 110 #[.val (.ref a1), .val (.int p2), .val (.int p3), .val (.int (f4 (p2).toNatClampNeg)), .val (.int (g1_49 (p3).toNatClampNeg))] [])) _
        refine XS.aloadN X68.here hx rfl (hb hby d5_110) rfl rfl ?_
        show Steps p.tables e below (T68.setTop (mkF m 111 #[.val (.ref a1), .val (.int p2), .val (.int p3), .val (.int (f4 (p2).toNatClampNeg)), .val (.int (g1_49 (p3).toNatClampNeg))] [(.ref a1)])) _
        refine st74 _ ?_
        show Steps p.tables e below (T74.setTop (mkF m 114 #[.val (.ref a1), .val (.int p2), .val (.int p3), .val (.int (f4 (p2).toNatClampNeg)), .val (.int (g1_49 (p3).toNatClampNeg))] [(.ref r1)])) _
        refine XS.iloadN X74.here hx rfl (hb hby d5_114) rfl ?_
        show Steps p.tables e below (T74.setTop (mkF m 115 #[.val (.ref a1), .val (.int p2), .val (.int p3), .val (.int (f4 (p2).toNatClampNeg)), .val (.int (g1_49 (p3).toNatClampNeg))] [(.int p3), (.ref r1)])) _
        refine XS.iloadN X74.here hx rfl (hb hby d5_115) rfl ?_
        show Steps p.tables e below (T74.setTop (mkF m 116 #[.val (.ref a1), .val (.int p2), .val (.int p3), .val (.int (f4 (p2).toNatClampNeg)), .val (.int (g1_49 (p3).toNatClampNeg))] [(.int p2), (.int p3), (.ref r1)])) _
        refine st76 _ ?_
        show Steps p.tables e below (T76.setTop (mkF m 117 #[.val (.ref a1), .val (.int p2), .val (.int p3), .val (.int (f4 (p2).toNatClampNeg)), .val (.int (g1_49 (p3).toNatClampNeg))] [])) _
        refine XS.aloadN X76.here hx rfl (hb hby d5_117) rfl rfl ?_
        show Steps p.tables e below (T76.setTop (mkF m 118 #[.val (.ref a1), .val (.int p2), .val (.int p3), .val (.int (f4 (p2).toNatClampNeg)), .val (.int (g1_49 (p3).toNatClampNeg))] [(.ref a1)])) _
        refine st78 _ ?_
        show Steps p.tables e below (T78.setTop (mkF m 121 #[.val (.ref a1), .val (.int p2), .val (.int p3), .val (.int (f4 (p2).toNatClampNeg)), .val (.int (g1_49 (p3).toNatClampNeg))] [(.ref r4)])) _
        refine XS.iloadN X78.here hx rfl (hb hby d5_121) rfl ?_
        show Steps p.tables e below (T78.setTop (mkF m 122 #[.val (.ref a1), .val (.int p2), .val (.int p3), .val (.int (f4 (p2).toNatClampNeg)), .val (.int (g1_49 (p3).toNatClampNeg))] [(.int p2), (.ref r4)])) _
        refine XS.iloadN X78.here hx rfl (hb hby d5_122) rfl ?_
        show Steps p.tables e below (T78.setTop (mkF m 123 #[.val (.ref a1), .val (.int p2), .val (.int p3), .val (.int (f4 (p2).toNatClampNeg)), .val (.int (g1_49 (p3).toNatClampNeg))] [(.int p3), (.int p2), (.ref r4)])) _
        refine st80 _ ?_
        show Steps p.tables e below (T80.setTop (mkF m 124 #[.val (.ref a1), .val (.int p2), .val (.int p3), .val (.int (f4 (p2).toNatClampNeg)), .val (.int (g1_49 (p3).toNatClampNeg))] [])) _
        refine XS.aloadN X80.here hx rfl (hb hby d5_124) rfl rfl ?_
        show Steps p.tables e below (T80.setTop (mkF m 125 #[.val (.ref a1), .val (.int p2), .val (.int p3), .val (.int (f4 (p2).toNatClampNeg)), .val (.int (g1_49 (p3).toNatClampNeg))] [(.ref a1)])) _
        refine XS.dup X80.here hx rfl (hb hby d5_125) rfl rfl ?_
        show Steps p.tables e below (T80.setTop (mkF m 126 #[.val (.ref a1), .val (.int p2), .val (.int p3), .val (.int (f4 (p2).toNatClampNeg)), .val (.int (g1_49 (p3).toNatClampNeg))] [(.ref a1), (.ref a1)])) _
        refine st82 _ ?_
        show Steps p.tables e below (T82.setTop (mkF m 129 #[.val (.ref a1), .val (.int p2), .val (.int p3), .val (.int (f4 (p2).toNatClampNeg)), .val (.int (g1_49 (p3).toNatClampNeg))] [(.int (w - (1 : Int32))), (.ref a1)])) _
        refine XS.iconst X82.here hx rfl (hb hby d5_129) ?_
        show Steps p.tables e below (T82.setTop (mkF m 130 #[.val (.ref a1), .val (.int p2), .val (.int p3), .val (.int (f4 (p2).toNatClampNeg)), .val (.int (g1_49 (p3).toNatClampNeg))] [(.int (1 : Int32)), (.int (w - (1 : Int32))), (.ref a1)])) _
        refine XS.iadd X82.here hx rfl (hb hby d5_130) rfl ?_
        show Steps p.tables e below (T82.setTop (mkF m 131 #[.val (.ref a1), .val (.int p2), .val (.int p3), .val (.int (f4 (p2).toNatClampNeg)), .val (.int (g1_49 (p3).toNatClampNeg))] [(.int ((w - (1 : Int32)) + (1 : Int32))), (.ref a1)])) _
        refine st84 _ ?_
        show Steps p.tables e below (T84.setTop (mkF m 134 #[.val (.ref a1), .val (.int p2), .val (.int p3), .val (.int (f4 (p2).toNatClampNeg)), .val (.int (g1_49 (p3).toNatClampNeg))] [])) _
        exact X84.returnOut hx Bd.returns (hb hby d5_134) hr
      · show Q5 Z a1 p2 p3 r1 r2 r3 r4 z w f1 f2 f3 f4 h0 n0 _ T84.heap _
        rw [e84]
        have F87 := (((F75.other W76 (Or.inl ne_a1_r1)).other W80 (Or.inl ne_a1_r4)).other W84 (Or.inr (slot_ne (Or.inr (hw _ (List.mem_of_getElem? (i := 16) rfl))) (Or.inl (hw _ (List.mem_of_getElem? (i := 35) rfl))) (by decide) (t := (.array .int)) (t' := .int) (by decide) (by decide))))
        have F88 := ((((((F60.other W61 (Or.inl ne_a1_r2)).other W65 (Or.inl ne_a1_r3)).keep Kj68 (ninS ne_a1_r3 nin0)).other W76 (Or.inl ne_a1_r1)).other W80 (Or.inl ne_a1_r4)).other W84 (Or.inr (slot_ne (Or.inr (hw _ (List.mem_of_getElem? (i := 18) rfl))) (Or.inl (hw _ (List.mem_of_getElem? (i := 35) rfl))) (by decide) (t := (.array .int)) (t' := .int) (by decide) (by decide))))
        have F89 := (((((F64.other W65 (Or.inl ne_a1_r3)).keep Kj68 (ninS ne_a1_r3 nin0)).other W76 (Or.inl ne_a1_r1)).other W80 (Or.inl ne_a1_r4)).other W84 (Or.inr (slot_ne (Or.inr (hw _ (List.mem_of_getElem? (i := 20) rfl))) (Or.inl (hw _ (List.mem_of_getElem? (i := 35) rfl))) (by decide) (t := (.array .int)) (t' := .int) (by decide) (by decide))))
        have F90 := ((F79.other W80 (Or.inl ne_a1_r4)).other W84 (Or.inr (slot_ne (Or.inr (hw _ (List.mem_of_getElem? (i := 22) rfl))) (Or.inl (hw _ (List.mem_of_getElem? (i := 35) rfl))) (by decide) (t := (.array .int)) (t' := .int) (by decide) (by decide))))
        have F91 := ((((((((F_a1_cursor.keep K49 (ninS ne_a1_r1 (ninS ne_a1_r2 (ninS ne_a1_r3 (ninS ne_a1_r4 nin0))))).other W53 (Or.inr (slot_ne (Or.inl (hw _ (List.mem_of_getElem? (i := 33) rfl))) (Or.inl (hw _ (List.mem_of_getElem? (i := 35) rfl))) (by decide) (t := .int) (t' := .int) (by decide) (by decide)))).other W61 (Or.inl ne_a1_r2)).other W65 (Or.inl ne_a1_r3)).keep Kj68 (ninS ne_a1_r3 nin0)).other W76 (Or.inl ne_a1_r1)).other W80 (Or.inl ne_a1_r4)).other W84 (Or.inr (slot_ne (Or.inl (hw _ (List.mem_of_getElem? (i := 33) rfl))) (Or.inl (hw _ (List.mem_of_getElem? (i := 35) rfl))) (by decide) (t := .int) (t' := .int) (by decide) (by decide))))
        have F92 := ((V76.other W80 ne_r1_r4).other W84 (Ne.symm ne_a1_r1))
        have F93 := (((((V61.other W65 ne_r2_r3).keep Kj68 (ninS ne_r2_r3 nin0)).other W76 (Ne.symm ne_r1_r2)).other W80 ne_r2_r4).other W84 (Ne.symm ne_a1_r2))
        have F94 := (((P68_0.other W76 (Ne.symm ne_r1_r3)).other W80 ne_r3_r4).other W84 (Ne.symm ne_a1_r3))
        have F95 := (V80.other W84 (Ne.symm ne_a1_r4))
        exact ⟨(fun i => if i = (p3).toNatClampNeg then p2 else g1_49 i), (fun i => if i = (p2).toNatClampNeg then (g1_49 (p3).toNatClampNeg) else g2_49 i), (m5_68_0 p2 p3 g1_49 g3_49), (fun i => if i = (p2).toNatClampNeg then p3 else g4_49 i), ((w - (1 : Int32)) + (1 : Int32)), rfl, N84, K84, F87, F88, F89, F90, F91, Fw84, F92, F93, F94, F95, (own_push P49_4 (own_range hn).1 (by rw [P49_5, if_pos rfl]) hkr.1 hkr.2 (fun j => by rw [← (own_range hn).2]) (fun j => rfl) (fun j => by rw [← (own_range hn).2]; simp only [m5_19_0, m5_68_0]; by_cases q : g1_49 p3.toNatClampNeg = -1 <;> by_cases q3 : j = (g1_49 p3.toNatClampNeg).toNatClampNeg <;> simp [q, q3]) (fun j => rfl)), (fun i _ => own_off3 P49_5 hc48 i)⟩
    · obtain ⟨fs, hr, hrun, hended, hW, hsame⟩ := X6.leave (v := none) (fun _ => rfl) hlk
      refine ⟨_, _, pre47 _ ?_, hrun, hended, _, _, rfl, ?_, ⟨_, rfl⟩, hW, hsame.mono (by decide) (by decide)⟩
      · show Steps p.tables e below (T6.setTop (mkF m 53 #[.val (.ref a1), .val (.int p2), .val (.int p3), .val (.int (f4 (p2).toNatClampNeg)), .unset] [(.int p3), (.int (f4 (p2).toNatClampNeg))])) _
        refine XS.icmpNo X6.here hx rfl (hb hby d5_53) rfl (flt hc48).2.2.1 ?_
        show Steps p.tables e below (T6.setTop (mkF m 56 #[.val (.ref a1), .val (.int p2), .val (.int p3), .val (.int (f4 (p2).toNatClampNeg)), .unset] [])) _
        exact X6.returnOut hx Bd.returns (hb hby d5_56) hr
      · show Q5 Z a1 p2 p3 r1 r2 r3 r4 z w f1 f2 f3 f4 h0 n0 _ T6.heap _
        rw [e6]
        exact ⟨f1, f2, f3, f4, w, rfl, N0, (Keep.refl h0 [a1, r1, r2, r3, r4]), F_a1_first, F_a1_next, F_a1_previous, F_a1_keyOf, F_a1_cursor, F_a1_size, V_r1, V_r2, V_r3, V_r4, hI, (fun i _ => own_noteN f4 p2 p3 (own_nneg hI (own_range hn).1 hc9) hc48 i)⟩

theorem own_span (x : Int32) : 1 ≤ ((x &&& 15) + 1).toInt ∧ ((x &&& 15) + 1).toInt ≤ 16 ∧ (((x &&& 15) + 1) - 1 + 1) = ((x &&& 15) + 1) := by
  have e : (x &&& 15).toInt = x.toInt % 2 ^ 4 := Jvm.Kit.i32_mask x 15 (k := 4) (by decide) (by decide)
  have e1 : (1 : Int32).toInt = 1 := rfl
  have e2 : ((x &&& 15) + 1).toInt = (x &&& 15).toInt + 1 := by rw [Jvm.Kit.i32_add (by omega) (by omega), e1]
  refine ⟨by omega, by omega, by grind⟩
theorem own_spnz (x : Int32) : ((x &&& 15) + 1) ≠ 0 := fun h => by
  have := own_span x
  rw [h] at this
  exact absurd this.1 (by decide)
theorem own_sp (x : Int32) : 0 ≤ (((x &&& 15) + 1) - 1 + 1).toInt ∧ (((x &&& 15) + 1) - 1 + 1).toInt ≤ 16 := by
  have := own_span x
  rw [this.2.2]; omega
theorem own_n3 (x : Int32) : ¬ ((x &&& 15) % 3) < 0 ∧ ((x &&& 15) % 3) < 3 := by
  have e : (x &&& 15).toInt = x.toInt % 2 ^ 4 := Jvm.Kit.i32_mask x 15 (k := 4) (by decide) (by decide)
  have e3 : (3 : Int32).toInt = 3 := rfl
  have e2 : ((x &&& 15) % 3).toInt = (x &&& 15).toInt % 3 := by rw [Jvm.Kit.i32_rem_nonneg (by omega), e3]
  exact own_ij2 ⟨by omega, by omega⟩
theorem own_key (x y : Int32) : 0 ≤ ((y &&& 2147483647) % ((x &&& 15) + 1)).toInt ∧ ((y &&& 2147483647) % ((x &&& 15) + 1)).toInt < (((x &&& 15) + 1) - 1 + 1).toInt := by
  have h := own_span x
  rw [h.2.2]
  have e : (y &&& 2147483647).toInt = y.toInt % 2 ^ 31 := Jvm.Kit.i32_mask y 2147483647 (k := 31) (by decide) (by decide)
  have e2 : ((y &&& 2147483647) % ((x &&& 15) + 1)).toInt = (y &&& 2147483647).toInt % ((x &&& 15) + 1).toInt := Jvm.Kit.i32_rem_nonneg (by omega)
  rw [e2]
  exact ⟨Int.emod_nonneg _ (by omega), Int.emod_lt_of_pos _ (by omega)⟩
theorem own_np {f g : Nat → Int32} {p k : Int32} {i : Nat} (h : f i = g i) : noteF f p k i = noteF g p k i := by
  show (if i = p.toNatClampNeg ∧ (f i < 0 ∨ k < f i) then k else f i) = if i = p.toNatClampNeg ∧ (g i < 0 ∨ k < g i) then k else g i
  rw [h]
theorem own_nk {f : Nat → Int32} {p k : Int32} {i : Nat} (hk : 0 ≤ k.toInt) (h : 0 ≤ (f i).toInt) : 0 ≤ (noteF f p k i).toInt := by
  show 0 ≤ (if i = p.toNatClampNeg ∧ (f i < 0 ∨ k < f i) then k else f i).toInt
  split <;> assumption
theorem own_n0 {p k : Int32} (hk : 0 ≤ k.toInt) : 0 ≤ (noteF (fun _ => (-1 : Int32)) p k p.toNatClampNeg).toInt := by
  show 0 ≤ (if p.toNatClampNeg = p.toNatClampNeg ∧ ((-1 : Int32) < 0 ∨ k < -1) then k else -1).toInt
  rw [if_pos ⟨rfl, Or.inl (by decide)⟩]; exact hk
theorem own_e3 (i : Nat) (h : i < 3) : (fun i => if i = 2 then (-1 : Int32) else (fun i => if i = 1 then (-1 : Int32) else (fun i => if i = 0 then (-1 : Int32) else (fun _ => 0) i) i) i) i = (-1 : Int32) := by
  match i, h with
  | 0, _ => rfl
  | 1, _ => rfl
  | 2, _ => rfl

theorem pd_3 : parseMethodDescriptor "([III)V" = some ⟨[(.array .int), .int, .int], none⟩ := by decide +kernel
def m0_105_0 (ef : Nat → Int32) : Int32 := (if (ef ((0 : Int32)).toNatClampNeg) < (0 : Int32) then (0 : Int32) else (1 : Int32))
def m0_105_1 (ef : Nat → Int32) : Int32 := (if (ef ((0 : Int32)).toNatClampNeg) < (0 : Int32) then (2147483647 : Int32) else (ef ((0 : Int32)).toNatClampNeg))
def m0_110_0 (ef : Nat → Int32) : Int32 := (if (ef ((1 : Int32)).toNatClampNeg) < (0 : Int32) then (m0_105_0 ef) else ((m0_105_0 ef) + (1 : Int32)))
def m0_110_1 (ef : Nat → Int32) : Int32 := (if (ef ((1 : Int32)).toNatClampNeg) < (0 : Int32) then (2147483647 : Int32) else (ef ((1 : Int32)).toNatClampNeg))
def m0_115_0 (ef : Nat → Int32) : Int32 := (if (ef ((2 : Int32)).toNatClampNeg) < (0 : Int32) then (m0_110_0 ef) else ((m0_110_0 ef) + (1 : Int32)))
def m0_115_1 (ef : Nat → Int32) : Int32 := (if (ef ((2 : Int32)).toNatClampNeg) < (0 : Int32) then (2147483647 : Int32) else (ef ((2 : Int32)).toNatClampNeg))
def m0_119_0 (ef : Nat → Int32) : Int32 := (if (m0_110_1 ef) < (m0_105_1 ef) then (m0_110_1 ef) else (m0_105_1 ef))
def m0_119_1 (ef : Nat → Int32) : Int32 := (if (m0_110_1 ef) < (m0_105_1 ef) then (m0_105_1 ef) else (m0_110_1 ef))
def m0_119_2 (ef : Nat → Int32) : Slot := (if (m0_110_1 ef) < (m0_105_1 ef) then .val (.int (m0_105_1 ef)) else .unset)
theorem sl_m0_119_2 (ef : Nat → Int32) : own_sl (m0_119_2 ef) := by
  unfold m0_119_2
  repeat' split
  all_goals first | exact Or.inl rfl | exact Or.inr (Or.inl ⟨_, rfl⟩) | exact Or.inr (Or.inr ⟨_, rfl⟩)
def m0_122_0 (ef : Nat → Int32) : Int32 := (if (m0_115_1 ef) < (m0_119_1 ef) then (m0_115_1 ef) else (m0_119_1 ef))
def m0_122_1 (ef : Nat → Int32) : Int32 := (if (m0_115_1 ef) < (m0_119_1 ef) then (m0_119_1 ef) else (m0_115_1 ef))
def m0_122_2 (ef : Nat → Int32) : Slot := (if (m0_115_1 ef) < (m0_119_1 ef) then .val (.int (m0_119_1 ef)) else (m0_119_2 ef))
theorem sl_m0_122_2 (ef : Nat → Int32) : own_sl (m0_122_2 ef) := by
  unfold m0_122_2
  repeat' split
  all_goals first | exact Or.inl rfl | exact Or.inr (Or.inl ⟨_, rfl⟩) | exact Or.inr (Or.inr ⟨_, rfl⟩) | exact (sl_m0_119_2 ef)
def m0_125_0 (ef : Nat → Int32) : Int32 := (if (m0_122_0 ef) < (m0_119_0 ef) then (m0_122_0 ef) else (m0_119_0 ef))
def m0_125_1 (ef : Nat → Int32) : Int32 := (if (m0_122_0 ef) < (m0_119_0 ef) then (m0_119_0 ef) else (m0_122_0 ef))
def m0_125_2 (ef : Nat → Int32) : Slot := (if (m0_122_0 ef) < (m0_119_0 ef) then .val (.int (m0_119_0 ef)) else (m0_122_2 ef))

theorem own_y {x : Int32} (h : x = -1 ∨ (0 ≤ x.toInt ∧ x.toInt < 16 + 1)) : (x.toInt = -1 ∧ (if x < (0 : Int32) then (2147483647 : Int32) else x).toInt = 2147483647) ∨ (0 ≤ x.toInt ∧ x.toInt < 17 ∧ (if x < (0 : Int32) then (2147483647 : Int32) else x).toInt = x.toInt) := by
  rcases h with rfl | ⟨h1, h2⟩
  · exact Or.inl ⟨rfl, by decide⟩
  · refine Or.inr ⟨h1, by omega, ?_⟩
    rw [if_neg (fun q => by have q' : x.toInt < 0 := Int32.lt_iff_toInt_lt.mp q; omega)]
theorem own_cnt (ef : Nat → Int32) (hr : ∀ i, i < 3 → ef i = -1 ∨ (0 ≤ (ef i).toInt ∧ (ef i).toInt < 16 + 1)) : (m0_115_0 ef).toInt = (if (ef 0).toInt < 0 then 0 else 1) + (if (ef 1).toInt < 0 then 0 else 1) + (if (ef 2).toInt < 0 then 0 else 1) := by
  simp only [m0_105_0, m0_110_0, m0_115_0]
  show (if ef 2 < 0 then (if ef 1 < 0 then (if ef 0 < 0 then (0 : Int32) else 1) else (if ef 0 < 0 then (0 : Int32) else 1) + 1) else (if ef 1 < 0 then (if ef 0 < 0 then (0 : Int32) else 1) else (if ef 0 < 0 then (0 : Int32) else 1) + 1) + 1).toInt = _
  have z : ∀ x : Int32, x < 0 ↔ x.toInt < 0 := fun x => Int32.lt_iff_toInt_lt
  simp only [z]
  by_cases h0 : (ef 0).toInt < 0 <;> by_cases h1 : (ef 1).toInt < 0 <;> by_cases h2 : (ef 2).toInt < 0 <;> simp only [h0, h1, h2, if_true, if_false] <;> decide
theorem own_ite {u v p q d : Int32} (h : d = if u < v then p else q) : (u.toInt < v.toInt ∧ d.toInt = p.toInt) ∨ (v.toInt ≤ u.toInt ∧ d.toInt = q.toInt) := by
  by_cases c : u < v
  · exact Or.inl ⟨Int32.lt_iff_toInt_lt.mp c, by rw [h, if_pos c]⟩
  · exact Or.inr ⟨own_nlt c, by rw [h, if_neg c]⟩
theorem own_sort (ef : Nat → Int32) : ((m0_125_0 ef).toInt ≤ (m0_125_1 ef).toInt ∧ (m0_125_1 ef).toInt ≤ (m0_122_1 ef).toInt) ∧
    (((m0_125_0 ef).toInt = (m0_105_1 ef).toInt ∧ (m0_125_1 ef).toInt = (m0_110_1 ef).toInt ∧ (m0_122_1 ef).toInt = (m0_115_1 ef).toInt) ∨ ((m0_125_0 ef).toInt = (m0_105_1 ef).toInt ∧ (m0_125_1 ef).toInt = (m0_115_1 ef).toInt ∧ (m0_122_1 ef).toInt = (m0_110_1 ef).toInt) ∨ ((m0_125_0 ef).toInt = (m0_110_1 ef).toInt ∧ (m0_125_1 ef).toInt = (m0_105_1 ef).toInt ∧ (m0_122_1 ef).toInt = (m0_115_1 ef).toInt)
    ∨ ((m0_125_0 ef).toInt = (m0_110_1 ef).toInt ∧ (m0_125_1 ef).toInt = (m0_115_1 ef).toInt ∧ (m0_122_1 ef).toInt = (m0_105_1 ef).toInt) ∨ ((m0_125_0 ef).toInt = (m0_115_1 ef).toInt ∧ (m0_125_1 ef).toInt = (m0_105_1 ef).toInt ∧ (m0_122_1 ef).toInt = (m0_110_1 ef).toInt) ∨ ((m0_125_0 ef).toInt = (m0_115_1 ef).toInt ∧ (m0_125_1 ef).toInt = (m0_110_1 ef).toInt ∧ (m0_122_1 ef).toInt = (m0_105_1 ef).toInt)) := by
  have i0 := own_ite (show m0_119_0 ef = (if (m0_110_1 ef) < (m0_105_1 ef) then (m0_110_1 ef) else (m0_105_1 ef)) from rfl)
  have i1 := own_ite (show m0_119_1 ef = (if (m0_110_1 ef) < (m0_105_1 ef) then (m0_105_1 ef) else (m0_110_1 ef)) from rfl)
  have i2 := own_ite (show m0_122_0 ef = (if (m0_115_1 ef) < (m0_119_1 ef) then (m0_115_1 ef) else (m0_119_1 ef)) from rfl)
  have i3 := own_ite (show m0_122_1 ef = (if (m0_115_1 ef) < (m0_119_1 ef) then (m0_119_1 ef) else (m0_115_1 ef)) from rfl)
  have i4 := own_ite (show m0_125_0 ef = (if (m0_122_0 ef) < (m0_119_0 ef) then (m0_122_0 ef) else (m0_119_0 ef)) from rfl)
  have i5 := own_ite (show m0_125_1 ef = (if (m0_122_0 ef) < (m0_119_0 ef) then (m0_119_0 ef) else (m0_122_0 ef)) from rfl)
  rcases i0 with ⟨i0, j0⟩ | ⟨i0, j0⟩ <;> rcases i1 with ⟨i1, j1⟩ | ⟨i1, j1⟩ <;> (try (exfalso; omega)) <;> rcases i2 with ⟨i2, j2⟩ | ⟨i2, j2⟩ <;> rcases i3 with ⟨i3, j3⟩ | ⟨i3, j3⟩ <;> (try (exfalso; omega)) <;> rcases i4 with ⟨i4, j4⟩ | ⟨i4, j4⟩ <;> rcases i5 with ⟨i5, j5⟩ | ⟨i5, j5⟩ <;> omega
def MinI (x0 x1 x2 v : Int) : Prop := ((v = x0 ∨ v = x1 ∨ v = x2) ∧ v ≠ -1) ∧ (x0 = -1 ∨ v ≤ x0) ∧ (x1 = -1 ∨ v ≤ x1) ∧ (x2 = -1 ∨ v ≤ x2)
def PopI (x0 x1 x2 y0 y1 y2 v : Int) : Prop := (x0 = v ∧ y0 = -1 ∧ y1 = x1 ∧ y2 = x2) ∨ (x1 = v ∧ y1 = -1 ∧ y0 = x0 ∧ y2 = x2) ∨ (x2 = v ∧ y2 = -1 ∧ y0 = x0 ∧ y1 = x1)
theorem own_m1 {x : Int32} : x = -1 ↔ x.toInt = -1 := ⟨fun h => by rw [h]; rfl, fun h => Int32.toInt_inj.mp h⟩
theorem own_loI {k : Nat → Int32} {v : Int32} (hmin : ∀ i, i < 3 → k i ≠ -1 → v.toInt ≤ (k i).toInt) (i : Nat) (hi : i < 3) : (k i).toInt = -1 ∨ v.toInt ≤ (k i).toInt := by
  by_cases q : k i = -1
  · exact Or.inl (own_m1.mp q)
  · exact Or.inr (hmin i hi q)
theorem own_minI {k : Nat → Int32} {v : Int32} (hv : ∃ i, i < 3 ∧ k i = v ∧ k i ≠ -1) (hmin : ∀ i, i < 3 → k i ≠ -1 → v.toInt ≤ (k i).toInt) : MinI (k 0).toInt (k 1).toInt (k 2).toInt v.toInt := by
  obtain ⟨i, hi, e, hne⟩ := hv
  refine ⟨⟨?_, fun h => hne (e.trans (own_m1.mpr h))⟩, own_loI hmin 0 (by decide), own_loI hmin 1 (by decide), own_loI hmin 2 (by decide)⟩
  rw [← e]
  match i, hi with
  | 0, _ => exact Or.inl rfl
  | 1, _ => exact Or.inr (Or.inl rfl)
  | 2, _ => exact Or.inr (Or.inr rfl)
theorem own_popI {k k' : Nat → Int32} {v : Int32} (h : ∃ n, n < 3 ∧ k n = v ∧ ∀ j, k' j = if j = n then (-1 : Int32) else k j) : PopI (k 0).toInt (k 1).toInt (k 2).toInt (k' 0).toInt (k' 1).toInt (k' 2).toInt v.toInt := by
  obtain ⟨n, hn, e, hk⟩ := h
  match n, hn with
  | 0, _ => exact Or.inl ⟨by rw [e], by rw [hk]; rfl, by rw [hk]; rfl, by rw [hk]; rfl⟩
  | 1, _ => exact Or.inr (Or.inl ⟨by rw [e], by rw [hk]; rfl, by rw [hk]; rfl, by rw [hk]; rfl⟩)
  | 2, _ => exact Or.inr (Or.inr ⟨by rw [e], by rw [hk]; rfl, by rw [hk]; rfl, by rw [hk]; rfl⟩)
theorem own_lo2 {k k' : Nat → Int32} {v : Int32} (h : ∃ n, n < 3 ∧ k n = v ∧ ∀ j, k' j = if j = n then (-1 : Int32) else k j) (hmin : ∀ i, i < 3 → k i ≠ -1 → v.toInt ≤ (k i).toInt) (i : Nat) (hi : i < 3) (hw : k' i ≠ -1) : v.toInt ≤ (k' i).toInt := by
  obtain ⟨n, hn, e, hk⟩ := h
  rw [hk] at hw ⊢
  by_cases q : i = n
  · rw [if_pos q] at hw; exact absurd rfl hw
  · rw [if_neg q] at hw ⊢; exact hmin i hi hw
theorem own_Y (ef : Nat → Int32) (hr : ∀ i, i < 3 → ef i = -1 ∨ (0 ≤ (ef i).toInt ∧ (ef i).toInt < 16 + 1)) :
    (((ef 0).toInt = -1 ∧ (m0_105_1 ef).toInt = 2147483647) ∨ (0 ≤ (ef 0).toInt ∧ (ef 0).toInt < 17 ∧ (m0_105_1 ef).toInt = (ef 0).toInt)) ∧
    (((ef 1).toInt = -1 ∧ (m0_110_1 ef).toInt = 2147483647) ∨ (0 ≤ (ef 1).toInt ∧ (ef 1).toInt < 17 ∧ (m0_110_1 ef).toInt = (ef 1).toInt)) ∧
    (((ef 2).toInt = -1 ∧ (m0_115_1 ef).toInt = 2147483647) ∨ (0 ≤ (ef 2).toInt ∧ (ef 2).toInt < 17 ∧ (m0_115_1 ef).toInt = (ef 2).toInt)) :=
  ⟨own_y (hr 0 (by decide)), own_y (hr 1 (by decide)), own_y (hr 2 (by decide))⟩
set_option maxHeartbeats 4000000 in
theorem own_L1 (ef : Nat → Int32) (hr : ∀ i, i < 3 → ef i = -1 ∨ (0 ≤ (ef i).toInt ∧ (ef i).toInt < 16 + 1)) {k : Nat → Int32} (hk : ∀ i, i < 3 → k i = ef i) {v : Int32} (hv : ∃ i, i < 3 ∧ k i = v ∧ k i ≠ -1) (hmin : ∀ i, i < 3 → k i ≠ -1 → v.toInt ≤ (k i).toInt) : v = (m0_125_0 ef) := by
  have h1 := own_minI hv hmin
  rw [hk 0 (by decide), hk 1 (by decide), hk 2 (by decide)] at h1
  obtain ⟨y0, y1, y2⟩ := own_Y ef hr
  obtain ⟨⟨s1, s2⟩, s3⟩ := own_sort ef
  obtain ⟨⟨m0, m1⟩, m2, m3, m4⟩ := h1
  apply Int32.toInt_inj.mp
  rcases s3 with s | s | s | s | s | s <;> rcases m0 with m | m | m <;> omega
theorem own_ne3 {k : Nat → Int32} (h : (k 0).toInt ≠ -1 ∨ (k 1).toInt ≠ -1 ∨ (k 2).toInt ≠ -1) : ∃ i, i < 3 ∧ k i ≠ -1 := by
  rcases h with h | h | h
  · exact ⟨0, by decide, fun q => h (own_m1.mp q)⟩
  · exact ⟨1, by decide, fun q => h (own_m1.mp q)⟩
  · exact ⟨2, by decide, fun q => h (own_m1.mp q)⟩
theorem own_ex2 (ef : Nat → Int32) (hr : ∀ i, i < 3 → ef i = -1 ∨ (0 ≤ (ef i).toInt ∧ (ef i).toInt < 16 + 1)) {k k' : Nat → Int32} (hk : ∀ i, i < 3 → k i = ef i) {v : Int32} (hp : ∃ n, n < 3 ∧ k n = v ∧ ∀ j, k' j = if j = n then (-1 : Int32) else k j) (h : ¬ (m0_115_0 ef) < (2 : Int32)) : ∃ i, i < 3 ∧ k' i ≠ -1 := by
  have h2 := own_popI hp
  rw [hk 0 (by decide), hk 1 (by decide), hk 2 (by decide)] at h2
  have c := own_cnt ef hr
  have h' : (2 : Int) ≤ (m0_115_0 ef).toInt := own_nlt h
  rw [c] at h'
  apply own_ne3
  rcases h2 with ⟨a, b, d, f⟩ | ⟨a, b, d, f⟩ | ⟨a, b, d, f⟩ <;> (repeat' split at h') <;> omega
theorem own_ex3 (ef : Nat → Int32) (hr : ∀ i, i < 3 → ef i = -1 ∨ (0 ≤ (ef i).toInt ∧ (ef i).toInt < 16 + 1)) {k k' k'' : Nat → Int32} (hk : ∀ i, i < 3 → k i = ef i) {v v2 : Int32} (hp : ∃ n, n < 3 ∧ k n = v ∧ ∀ j, k' j = if j = n then (-1 : Int32) else k j) (hp2 : ∃ n, n < 3 ∧ k' n = v2 ∧ ∀ j, k'' j = if j = n then (-1 : Int32) else k' j) (h : ¬ (m0_115_0 ef) < (3 : Int32)) : ∃ i, i < 3 ∧ k'' i ≠ -1 := by
  have h2 := own_popI hp
  rw [hk 0 (by decide), hk 1 (by decide), hk 2 (by decide)] at h2
  have h3 := own_popI hp2
  have c := own_cnt ef hr
  have h' : (3 : Int) ≤ (m0_115_0 ef).toInt := own_nlt h
  rw [c] at h'
  apply own_ne3
  rcases h2 with ⟨a, b, d, f⟩ | ⟨a, b, d, f⟩ | ⟨a, b, d, f⟩ <;> rcases h3 with ⟨a', b', d', f'⟩ | ⟨a', b', d', f'⟩ | ⟨a', b', d', f'⟩ <;> (repeat' split at h') <;> omega
set_option maxHeartbeats 8000000 in
theorem own_L2 (ef : Nat → Int32) (hr : ∀ i, i < 3 → ef i = -1 ∨ (0 ≤ (ef i).toInt ∧ (ef i).toInt < 16 + 1)) {k k' : Nat → Int32} (hk : ∀ i, i < 3 → k i = ef i) {v v2 : Int32} (hp : ∃ n, n < 3 ∧ k n = v ∧ ∀ j, k' j = if j = n then (-1 : Int32) else k j) (hmin : ∀ i, i < 3 → k i ≠ -1 → v.toInt ≤ (k i).toInt) {zz : Int32} (hz : 0 ≤ v.toInt ∧ v.toInt < zz.toInt) (hv2 : ∃ i, i < 3 ∧ k' i = v2 ∧ k' i ≠ -1) (hmin2 : ∀ i, i < 3 → k' i ≠ -1 → v2.toInt ≤ (k' i).toInt) : v2 = (m0_125_1 ef) := by
  have h1 := own_popI hp
  have l0 := own_loI hmin 0 (by decide)
  have l1 := own_loI hmin 1 (by decide)
  have l2 := own_loI hmin 2 (by decide)
  rw [hk 0 (by decide)] at l0 h1
  rw [hk 1 (by decide)] at l1 h1
  rw [hk 2 (by decide)] at l2 h1
  have h2 := own_minI hv2 hmin2
  obtain ⟨y0, y1, y2⟩ := own_Y ef hr
  obtain ⟨⟨s1, s2⟩, s3⟩ := own_sort ef
  obtain ⟨⟨m0, m1⟩, m2, m3, m4⟩ := h2
  clear hp hv2 hmin hmin2 hr hk
  apply Int32.toInt_inj.mp
  rcases h1 with ⟨a, b, d, f⟩ | ⟨a, b, d, f⟩ | ⟨a, b, d, f⟩ <;> rcases s3 with s | s | s | s | s | s <;> rcases m0 with m | m | m <;> omega
set_option maxHeartbeats 16000000 in
theorem own_L3 (ef : Nat → Int32) (hr : ∀ i, i < 3 → ef i = -1 ∨ (0 ≤ (ef i).toInt ∧ (ef i).toInt < 16 + 1)) {k k' k'' : Nat → Int32} (hk : ∀ i, i < 3 → k i = ef i) {v v2 v3 : Int32} (hp : ∃ n, n < 3 ∧ k n = v ∧ ∀ j, k' j = if j = n then (-1 : Int32) else k j) (hmin : ∀ i, i < 3 → k i ≠ -1 → v.toInt ≤ (k i).toInt) {zz : Int32} (hz : 0 ≤ v.toInt ∧ v.toInt < zz.toInt) (hp2 : ∃ n, n < 3 ∧ k' n = v2 ∧ ∀ j, k'' j = if j = n then (-1 : Int32) else k' j) (hmin2 : ∀ i, i < 3 → k' i ≠ -1 → v2.toInt ≤ (k' i).toInt) {zy : Int32} (hz2 : 0 ≤ v2.toInt ∧ v2.toInt < zy.toInt) (hv3 : ∃ i, i < 3 ∧ k'' i = v3 ∧ k'' i ≠ -1) (hmin3 : ∀ i, i < 3 → k'' i ≠ -1 → v3.toInt ≤ (k'' i).toInt) : v3 = (m0_122_1 ef) := by
  have h1 := own_popI hp
  have l0 := own_loI hmin 0 (by decide)
  have l1 := own_loI hmin 1 (by decide)
  have l2 := own_loI hmin 2 (by decide)
  rw [hk 0 (by decide)] at l0 h1
  rw [hk 1 (by decide)] at l1 h1
  rw [hk 2 (by decide)] at l2 h1
  have h2 := own_popI hp2
  have n0 := own_loI hmin2 0 (by decide)
  have n1 := own_loI hmin2 1 (by decide)
  have n2 := own_loI hmin2 2 (by decide)
  have h3 := own_minI hv3 hmin3
  obtain ⟨y0, y1, y2⟩ := own_Y ef hr
  obtain ⟨⟨s1, s2⟩, s3⟩ := own_sort ef
  obtain ⟨⟨m0, m1⟩, m2, m3, m4⟩ := h3
  clear hp hp2 hv3 hmin hmin2 hmin3 hr hk
  apply Int32.toInt_inj.mp
  rcases h1 with ⟨a, b, d, f⟩ | ⟨a, b, d, f⟩ | ⟨a, b, d, f⟩ <;> rcases h2 with ⟨a', b', d', f'⟩ | ⟨a', b', d', f'⟩ | ⟨a', b', d', f'⟩ <;> rcases m0 with m | m | m <;> (try (exfalso; omega)) <;> rcases s3 with s | s | s | s | s | s <;> omega

theorem ef_0 (m : MethodId) (x0 : Int32) (x1 : Int32) (x2 : Int32) (x3 : Int32) (x4 : Int32) (x5 : Int32) : entryFrame m #[(.int x0), (.int x1), (.int x2), (.int x3), (.int x4), (.int x5)] maxLocals = mkF m 0 #[.val (.int x0), .val (.int x1), .val (.int x2), .val (.int x3), .val (.int x4), .val (.int x5), .unset, .unset, .unset, .unset, .unset, .unset, .unset, .unset, .unset, .unset, .unset] [] := by first | (simp [entryFrame, mkF, argsToLocals, Value.category, maxLocals]; done) | rfl
def Q0 (Z : State) (p1 : Int32) (p2 : Int32) (p3 : Int32) (p4 : Int32) (p5 : Int32) (p6 : Int32) (h0 : Heap) (n0 : Nat) (v : Option Value) (h : Heap) (L : List Loc) : Prop := v = some (.int (1 : Int32)) ∧ Fr n0 L
set_option maxRecDepth 65536 in
set_option maxHeartbeats 40000000 in
theorem rm0 (l : Launch) (Z : State) (a0 : Array Value) (hw : ∀ d ∈ tables_1, d.before a0 Z = true) (ws : List Jvm.Cond) (p1 : Int32) (p2 : Int32) (p3 : Int32) (p4 : Int32) (p5 : Int32) (p6 : Int32) (h0 : Heap) (n0 : Nat) (Z0 : n0 ≤ h0.size) :
    MetFree l x (head1 (Jvm.Cond.code x code maxLocals ret :: ws) room_1) (fun a U => a = #[(.int p1), (.int p2), (.int p3), (.int p4), (.int p5), (.int p6)] ∧ Z.Warmed39 U.vm ∧ U.heap = h0) (fun _ _ _ _ _ => True) (fun _ U o U' => ∃ v L, o = .returned v ∧ Q0 Z p1 p2 p3 p4 p5 p6 h0 n0 v U'.heap L ∧ FrameEnd U o U' L room_1.cells room_1.slots) := by
  refine MetFree.of_bodySF (plainFor_of_name pn_0) hisR ?_
  intro p e s m args below meth c s₁ Bd hml0 hP hK
  obtain ⟨rfl, hZ, hh⟩ := hP
  have hx := Bd.exec
  have hlk : meth.locks = false := by first | exact BodyLoose.notSynchronized Bd | exact Body.notSynchronized Bd
  have hby := Bd.bytes
  have hml : c.maxLocals = 17 := hml0
  have hown : s.vm.findClass "com/example/hindsight/hindsight/solvers/BucketQueueMinKeyPinLaw" = some m.cls := findClass_of_methodNamed Bd.named
  have hnm := (name_of_methodNamed Bd.named Bd.method).1
  have X0 : Stand p l e room_1 s m #[(.int p1), (.int p2), (.int p3), (.int p4), (.int p5), (.int p6)] below meth c s₁ [] 0 0 := Stand.of_body Bd
  have e0 : s₁.heap = h0 := by rw [← hh, Bd.state]; rfl
  have N0 := Fr.nil n0
  have pre0 : ∀ t, Steps p.tables e below (s₁.setTop (mkF m 0 #[.val (.int p1), .val (.int p2), .val (.int p3), .val (.int p4), .val (.int p5), .val (.int p6), .unset, .unset, .unset, .unset, .unset, .unset, .unset, .unset, .unset, .unset, .unset] [])) t → Steps p.tables e below (s₁.setTop (entryFrame m #[(.int p1), (.int p2), (.int p3), (.int p4), (.int p5), (.int p6)] maxLocals)) t := fun t k => castTop (ef_0 m p1 p2 p3 p4 p5 p6) k
  obtain ⟨T1, h1, k1, X1, e1, E1, A1, st1⟩ := newP X0 hx hZ (hw _ (List.mem_of_getElem? (i := 0) rfl)) e0 (g := (mkF m 9 #[.val (.int p1), .val (.int p2), .val (.int p3), .val (.int p4), .val (.int p5), .val (.int p6), .val (.int ((p1 &&& (15 : Int32)) + (1 : Int32))), .unset, .unset, .unset, .unset, .unset, .unset, .unset, .unset, .unset, .unset] [(.int (4 : Int32))])) rfl (hb hby at_9) rfl (by decide) (cap := 4) (by decide) (by decide) (by decide) (by decide)
  obtain ⟨b1, g1⟩ : ∃ z, z = h0.size := ⟨_, rfl⟩
  rw [← g1] at A1 st1
  have g_b1 : n0 ≤ b1 := Nat.le_trans Z0 (Nat.le_of_eq g1.symm)
  have sz_b1 : h0.size ≤ b1 := Nat.le_trans (Keep.refl h0 []).1 (Nat.le_of_eq g1.symm)
  have K1 : Keep h0 h1 [] := (Keep.refl h0 []).ext E1
  have V_b1 : AV Z h1 b1 .int (4 : Int32) [(.int (0 : Int32)), (.int (0 : Int32)), (.int (0 : Int32)), (.int (0 : Int32))] := AV.new A1 (by decide)
  obtain ⟨cl2, A2, S2, Nl2, M2⟩ := id V_b1
  have hin2 : ¬ ((0 : Int32) < 0 ∨ cl2.slots.size ≤ ((0 : Int32)).toNatClampNeg) := AV.inb S2 Nl2 ⟨by decide, by decide⟩
  obtain ⟨T2, h2, X2, e2, W2, st2⟩ := stI X1 hx hZ e1 A2 (j := (0 : Int32)) hin2 (g := (mkF m 22 #[.val (.int p1), .val (.int p2), .val (.int p3), .val (.int p4), .val (.int p5), .val (.int p6), .val (.int ((p1 &&& (15 : Int32)) + (1 : Int32))), .val (.ref b1), .unset, .unset, .unset, .unset, .unset, .unset, .unset, .unset, .unset] [(.int ((p2 &&& (15 : Int32)) % (3 : Int32))), (.int (0 : Int32)), (.ref b1)])) rfl rfl (hb hby at_22)
  have V2 : AV Z h2 b1 .int (4 : Int32) [(.int ((p2 &&& (15 : Int32)) % (3 : Int32))), (.int (0 : Int32)), (.int (0 : Int32)), (.int (0 : Int32))] := AV.set A2 S2 Nl2 M2 W2
  have K2 : Keep h0 h2 [] := K1.wr W2 (Or.inr sz_b1)
  have N2 := Fr.snoc X2 N0 g_b1
  obtain ⟨cl3, A3, S3, Nl3, M3⟩ := id V2
  have hin3 : ¬ ((1 : Int32) < 0 ∨ cl3.slots.size ≤ ((1 : Int32)).toNatClampNeg) := AV.inb S3 Nl3 ⟨by decide, by decide⟩
  obtain ⟨T3, h3, X3, e3, W3, st3⟩ := stI X2 hx hZ e2 A3 (j := (1 : Int32)) hin3 (g := (mkF m 34 #[.val (.int p1), .val (.int p2), .val (.int p3), .val (.int p4), .val (.int p5), .val (.int p6), .val (.int ((p1 &&& (15 : Int32)) + (1 : Int32))), .val (.ref b1), .unset, .unset, .unset, .unset, .unset, .unset, .unset, .unset, .unset] [(.int ((((p2.toUInt32 >>> ((4 : Int32) &&& 31).toUInt32).toInt32) &&& (15 : Int32)) % (3 : Int32))), (.int (1 : Int32)), (.ref b1)])) rfl rfl (hb hby at_34)
  have V3 : AV Z h3 b1 .int (4 : Int32) [(.int ((p2 &&& (15 : Int32)) % (3 : Int32))), (.int ((((p2.toUInt32 >>> ((4 : Int32) &&& 31).toUInt32).toInt32) &&& (15 : Int32)) % (3 : Int32))), (.int (0 : Int32)), (.int (0 : Int32))] := AV.set A3 S3 Nl3 M3 W3
  have K3 : Keep h0 h3 [] := K2.wr W3 (Or.inr sz_b1)
  have N3 := Fr.snoc X3 N2 g_b1
  obtain ⟨cl4, A4, S4, Nl4, M4⟩ := id V3
  have hin4 : ¬ ((2 : Int32) < 0 ∨ cl4.slots.size ≤ ((2 : Int32)).toNatClampNeg) := AV.inb S4 Nl4 ⟨by decide, by decide⟩
  obtain ⟨T4, h4, X4, e4, W4, st4⟩ := stI X3 hx hZ e3 A4 (j := (2 : Int32)) hin4 (g := (mkF m 47 #[.val (.int p1), .val (.int p2), .val (.int p3), .val (.int p4), .val (.int p5), .val (.int p6), .val (.int ((p1 &&& (15 : Int32)) + (1 : Int32))), .val (.ref b1), .unset, .unset, .unset, .unset, .unset, .unset, .unset, .unset, .unset] [(.int ((((p2.toUInt32 >>> ((8 : Int32) &&& 31).toUInt32).toInt32) &&& (15 : Int32)) % (3 : Int32))), (.int (2 : Int32)), (.ref b1)])) rfl rfl (hb hby at_47)
  have V4 : AV Z h4 b1 .int (4 : Int32) [(.int ((p2 &&& (15 : Int32)) % (3 : Int32))), (.int ((((p2.toUInt32 >>> ((4 : Int32) &&& 31).toUInt32).toInt32) &&& (15 : Int32)) % (3 : Int32))), (.int ((((p2.toUInt32 >>> ((8 : Int32) &&& 31).toUInt32).toInt32) &&& (15 : Int32)) % (3 : Int32))), (.int (0 : Int32))] := AV.set A4 S4 Nl4 M4 W4
  have K4 : Keep h0 h4 [] := K3.wr W4 (Or.inr sz_b1)
  have N4 := Fr.snoc X4 N3 g_b1
  obtain ⟨cl5, A5, S5, Nl5, M5⟩ := id V4
  have hin5 : ¬ ((3 : Int32) < 0 ∨ cl5.slots.size ≤ ((3 : Int32)).toNatClampNeg) := AV.inb S5 Nl5 ⟨by decide, by decide⟩
  obtain ⟨T5, h5, X5, e5, W5, st5⟩ := stI X4 hx hZ e4 A5 (j := (3 : Int32)) hin5 (g := (mkF m 60 #[.val (.int p1), .val (.int p2), .val (.int p3), .val (.int p4), .val (.int p5), .val (.int p6), .val (.int ((p1 &&& (15 : Int32)) + (1 : Int32))), .val (.ref b1), .unset, .unset, .unset, .unset, .unset, .unset, .unset, .unset, .unset] [(.int ((((p2.toUInt32 >>> ((12 : Int32) &&& 31).toUInt32).toInt32) &&& (15 : Int32)) % (3 : Int32))), (.int (3 : Int32)), (.ref b1)])) rfl rfl (hb hby at_60)
  have V5 : AV Z h5 b1 .int (4 : Int32) [(.int ((p2 &&& (15 : Int32)) % (3 : Int32))), (.int ((((p2.toUInt32 >>> ((4 : Int32) &&& 31).toUInt32).toInt32) &&& (15 : Int32)) % (3 : Int32))), (.int ((((p2.toUInt32 >>> ((8 : Int32) &&& 31).toUInt32).toInt32) &&& (15 : Int32)) % (3 : Int32))), (.int ((((p2.toUInt32 >>> ((12 : Int32) &&& 31).toUInt32).toInt32) &&& (15 : Int32)) % (3 : Int32)))] := AV.set A5 S5 Nl5 M5 W5
  have K5 : Keep h0 h5 [] := K4.wr W5 (Or.inr sz_b1)
  have N5 := Fr.snoc X5 N4 g_b1
  obtain ⟨T6, h6, k6, X6, e6, E6, A6, st6⟩ := newP X5 hx hZ (hw _ (List.mem_of_getElem? (i := 0) rfl)) e5 (g := (mkF m 62 #[.val (.int p1), .val (.int p2), .val (.int p3), .val (.int p4), .val (.int p5), .val (.int p6), .val (.int ((p1 &&& (15 : Int32)) + (1 : Int32))), .val (.ref b1), .unset, .unset, .unset, .unset, .unset, .unset, .unset, .unset, .unset] [(.int (4 : Int32))])) rfl (hb hby at_62) rfl (by decide) (cap := 4) (by decide) (by decide) (by decide) (by decide)
  obtain ⟨b6, g6⟩ : ∃ z, z = h5.size := ⟨_, rfl⟩
  rw [← g6] at A6 st6
  have ne7 : b1 ≠ b6 := Nat.ne_of_lt (Nat.lt_of_lt_of_le V5.lt (Nat.le_of_eq g6.symm))
  have g_b6 : n0 ≤ b6 := Nat.le_trans (Nat.le_trans Z0 K5.1) (Nat.le_of_eq g6.symm)
  have sz_b6 : h0.size ≤ b6 := Nat.le_trans K5.1 (Nat.le_of_eq g6.symm)
  have K6 : Keep h0 h6 [] := K5.ext E6
  have V_b6 : AV Z h6 b6 .int (4 : Int32) [(.int (0 : Int32)), (.int (0 : Int32)), (.int (0 : Int32)), (.int (0 : Int32))] := AV.new A6 (by decide)
  obtain ⟨cl8, A8, S8, Nl8, M8⟩ := id V_b6
  have hin8 : ¬ ((0 : Int32) < 0 ∨ cl8.slots.size ≤ ((0 : Int32)).toNatClampNeg) := AV.inb S8 Nl8 ⟨by decide, by decide⟩
  obtain ⟨T8, h8, X8, e8, W8, st8⟩ := stI X6 hx hZ e6 A8 (j := (0 : Int32)) hin8 (g := (mkF m 76 #[.val (.int p1), .val (.int p2), .val (.int p3), .val (.int p4), .val (.int p5), .val (.int p6), .val (.int ((p1 &&& (15 : Int32)) + (1 : Int32))), .val (.ref b1), .val (.ref b6), .unset, .unset, .unset, .unset, .unset, .unset, .unset, .unset] [(.int ((p3 &&& (2147483647 : Int32)) % ((p1 &&& (15 : Int32)) + (1 : Int32)))), (.int (0 : Int32)), (.ref b6)])) rfl rfl (hb hby at_76)
  have V8 : AV Z h8 b6 .int (4 : Int32) [(.int ((p3 &&& (2147483647 : Int32)) % ((p1 &&& (15 : Int32)) + (1 : Int32)))), (.int (0 : Int32)), (.int (0 : Int32)), (.int (0 : Int32))] := AV.set A8 S8 Nl8 M8 W8
  have K8 : Keep h0 h8 [] := K6.wr W8 (Or.inr sz_b6)
  have N8 := Fr.snoc X8 N5 g_b6
  obtain ⟨cl9, A9, S9, Nl9, M9⟩ := id V8
  have hin9 : ¬ ((1 : Int32) < 0 ∨ cl9.slots.size ≤ ((1 : Int32)).toNatClampNeg) := AV.inb S9 Nl9 ⟨by decide, by decide⟩
  obtain ⟨T9, h9, X9, e9, W9, st9⟩ := stI X8 hx hZ e8 A9 (j := (1 : Int32)) hin9 (g := (mkF m 87 #[.val (.int p1), .val (.int p2), .val (.int p3), .val (.int p4), .val (.int p5), .val (.int p6), .val (.int ((p1 &&& (15 : Int32)) + (1 : Int32))), .val (.ref b1), .val (.ref b6), .unset, .unset, .unset, .unset, .unset, .unset, .unset, .unset] [(.int ((p4 &&& (2147483647 : Int32)) % ((p1 &&& (15 : Int32)) + (1 : Int32)))), (.int (1 : Int32)), (.ref b6)])) rfl rfl (hb hby at_87)
  have V9 : AV Z h9 b6 .int (4 : Int32) [(.int ((p3 &&& (2147483647 : Int32)) % ((p1 &&& (15 : Int32)) + (1 : Int32)))), (.int ((p4 &&& (2147483647 : Int32)) % ((p1 &&& (15 : Int32)) + (1 : Int32)))), (.int (0 : Int32)), (.int (0 : Int32))] := AV.set A9 S9 Nl9 M9 W9
  have K9 : Keep h0 h9 [] := K8.wr W9 (Or.inr sz_b6)
  have N9 := Fr.snoc X9 N8 g_b6
  obtain ⟨cl10, A10, S10, Nl10, M10⟩ := id V9
  have hin10 : ¬ ((2 : Int32) < 0 ∨ cl10.slots.size ≤ ((2 : Int32)).toNatClampNeg) := AV.inb S10 Nl10 ⟨by decide, by decide⟩
  obtain ⟨T10, h10, X10, e10, W10, st10⟩ := stI X9 hx hZ e9 A10 (j := (2 : Int32)) hin10 (g := (mkF m 99 #[.val (.int p1), .val (.int p2), .val (.int p3), .val (.int p4), .val (.int p5), .val (.int p6), .val (.int ((p1 &&& (15 : Int32)) + (1 : Int32))), .val (.ref b1), .val (.ref b6), .unset, .unset, .unset, .unset, .unset, .unset, .unset, .unset] [(.int ((p5 &&& (2147483647 : Int32)) % ((p1 &&& (15 : Int32)) + (1 : Int32)))), (.int (2 : Int32)), (.ref b6)])) rfl rfl (hb hby at_99)
  have V10 : AV Z h10 b6 .int (4 : Int32) [(.int ((p3 &&& (2147483647 : Int32)) % ((p1 &&& (15 : Int32)) + (1 : Int32)))), (.int ((p4 &&& (2147483647 : Int32)) % ((p1 &&& (15 : Int32)) + (1 : Int32)))), (.int ((p5 &&& (2147483647 : Int32)) % ((p1 &&& (15 : Int32)) + (1 : Int32)))), (.int (0 : Int32))] := AV.set A10 S10 Nl10 M10 W10
  have K10 : Keep h0 h10 [] := K9.wr W10 (Or.inr sz_b6)
  have N10 := Fr.snoc X10 N9 g_b6
  obtain ⟨cl11, A11, S11, Nl11, M11⟩ := id V10
  have hin11 : ¬ ((3 : Int32) < 0 ∨ cl11.slots.size ≤ ((3 : Int32)).toNatClampNeg) := AV.inb S11 Nl11 ⟨by decide, by decide⟩
  obtain ⟨T11, h11, X11, e11, W11, st11⟩ := stI X10 hx hZ e10 A11 (j := (3 : Int32)) hin11 (g := (mkF m 111 #[.val (.int p1), .val (.int p2), .val (.int p3), .val (.int p4), .val (.int p5), .val (.int p6), .val (.int ((p1 &&& (15 : Int32)) + (1 : Int32))), .val (.ref b1), .val (.ref b6), .unset, .unset, .unset, .unset, .unset, .unset, .unset, .unset] [(.int ((p6 &&& (2147483647 : Int32)) % ((p1 &&& (15 : Int32)) + (1 : Int32)))), (.int (3 : Int32)), (.ref b6)])) rfl rfl (hb hby at_111)
  have V11 : AV Z h11 b6 .int (4 : Int32) [(.int ((p3 &&& (2147483647 : Int32)) % ((p1 &&& (15 : Int32)) + (1 : Int32)))), (.int ((p4 &&& (2147483647 : Int32)) % ((p1 &&& (15 : Int32)) + (1 : Int32)))), (.int ((p5 &&& (2147483647 : Int32)) % ((p1 &&& (15 : Int32)) + (1 : Int32)))), (.int ((p6 &&& (2147483647 : Int32)) % ((p1 &&& (15 : Int32)) + (1 : Int32))))] := AV.set A11 S11 Nl11 M11 W11
  have K11 : Keep h0 h11 [] := K10.wr W11 (Or.inr sz_b6)
  have N11 := Fr.snoc X11 N10 g_b6
  obtain ⟨T12, h12, k12, X12, e12, E12, A12, st12⟩ := newP X11 hx hZ (hw _ (List.mem_of_getElem? (i := 0) rfl)) e11 (g := (mkF m 113 #[.val (.int p1), .val (.int p2), .val (.int p3), .val (.int p4), .val (.int p5), .val (.int p6), .val (.int ((p1 &&& (15 : Int32)) + (1 : Int32))), .val (.ref b1), .val (.ref b6), .unset, .unset, .unset, .unset, .unset, .unset, .unset, .unset] [(.int (3 : Int32))])) rfl (hb hby at_113) rfl (by decide) (cap := 3) (by decide) (by decide) (by decide) (by decide)
  obtain ⟨b12, g12⟩ : ∃ z, z = h11.size := ⟨_, rfl⟩
  rw [← g12] at A12 st12
  have F13 := (((((V5.ext E6).other W8 ne7).other W9 ne7).other W10 ne7).other W11 ne7)
  have ne14 : b1 ≠ b12 := Nat.ne_of_lt (Nat.lt_of_lt_of_le F13.lt (Nat.le_of_eq g12.symm))
  have ne15 : b6 ≠ b12 := Nat.ne_of_lt (Nat.lt_of_lt_of_le V11.lt (Nat.le_of_eq g12.symm))
  have g_b12 : n0 ≤ b12 := Nat.le_trans (Nat.le_trans Z0 K11.1) (Nat.le_of_eq g12.symm)
  have sz_b12 : h0.size ≤ b12 := Nat.le_trans K11.1 (Nat.le_of_eq g12.symm)
  have K12 : Keep h0 h12 [] := K11.ext E12
  have V_b12 : AI Z h12 b12 .int (3 : Int32) (fun _ => 0) := AI.new A12 (by decide) rfl
  obtain ⟨cl16, A16, S16, M16, G16⟩ := id V_b12
  have hin16 : ¬ ((0 : Int32) < 0 ∨ cl16.slots.size ≤ ((0 : Int32)).toNatClampNeg) := inb_of S16 ⟨by decide, by decide⟩
  obtain ⟨T16, h16, X16, e16, W16, st16⟩ := stI X12 hx hZ e12 A16 (j := (0 : Int32)) hin16 (g := (mkF m 121 #[.val (.int p1), .val (.int p2), .val (.int p3), .val (.int p4), .val (.int p5), .val (.int p6), .val (.int ((p1 &&& (15 : Int32)) + (1 : Int32))), .val (.ref b1), .val (.ref b6), .val (.ref b12), .unset, .unset, .unset, .unset, .unset, .unset, .unset] [(.int (-1 : Int32)), (.int (0 : Int32)), (.ref b12)])) rfl rfl (hb hby at_121)
  have V16 : AI Z h16 b12 .int (3 : Int32) (fun i => if i = 0 then (-1 : Int32) else (fun _ => 0) i) := AI.set A16 S16 M16 G16 W16
  have K16 : Keep h0 h16 [] := K12.wr W16 (Or.inr sz_b12)
  have N16 := Fr.snoc X16 N11 g_b12
  obtain ⟨cl17, A17, S17, M17, G17⟩ := id V16
  have hin17 : ¬ ((1 : Int32) < 0 ∨ cl17.slots.size ≤ ((1 : Int32)).toNatClampNeg) := inb_of S17 ⟨by decide, by decide⟩
  obtain ⟨T17, h17, X17, e17, W17, st17⟩ := stI X16 hx hZ e16 A17 (j := (1 : Int32)) hin17 (g := (mkF m 126 #[.val (.int p1), .val (.int p2), .val (.int p3), .val (.int p4), .val (.int p5), .val (.int p6), .val (.int ((p1 &&& (15 : Int32)) + (1 : Int32))), .val (.ref b1), .val (.ref b6), .val (.ref b12), .unset, .unset, .unset, .unset, .unset, .unset, .unset] [(.int (-1 : Int32)), (.int (1 : Int32)), (.ref b12)])) rfl rfl (hb hby at_126)
  have V17 : AI Z h17 b12 .int (3 : Int32) (fun i => if i = 1 then (-1 : Int32) else (fun i => if i = 0 then (-1 : Int32) else (fun _ => 0) i) i) := AI.set A17 S17 M17 G17 W17
  have K17 : Keep h0 h17 [] := K16.wr W17 (Or.inr sz_b12)
  have N17 := Fr.snoc X17 N16 g_b12
  obtain ⟨cl18, A18, S18, M18, G18⟩ := id V17
  have hin18 : ¬ ((2 : Int32) < 0 ∨ cl18.slots.size ≤ ((2 : Int32)).toNatClampNeg) := inb_of S18 ⟨by decide, by decide⟩
  obtain ⟨T18, h18, X18, e18, W18, st18⟩ := stI X17 hx hZ e17 A18 (j := (2 : Int32)) hin18 (g := (mkF m 131 #[.val (.int p1), .val (.int p2), .val (.int p3), .val (.int p4), .val (.int p5), .val (.int p6), .val (.int ((p1 &&& (15 : Int32)) + (1 : Int32))), .val (.ref b1), .val (.ref b6), .val (.ref b12), .unset, .unset, .unset, .unset, .unset, .unset, .unset] [(.int (-1 : Int32)), (.int (2 : Int32)), (.ref b12)])) rfl rfl (hb hby at_131)
  have V18 : AI Z h18 b12 .int (3 : Int32) (fun i => if i = 2 then (-1 : Int32) else (fun i => if i = 1 then (-1 : Int32) else (fun i => if i = 0 then (-1 : Int32) else (fun _ => 0) i) i) i) := AI.set A18 S18 M18 G18 W18
  have K18 : Keep h0 h18 [] := K17.wr W18 (Or.inr sz_b12)
  have N18 := Fr.snoc X18 N17 g_b12
  have Ve0 : AI Z h18 b12 .int (3 : Int32) (fun _ => (-1 : Int32)) := AI.congr V18 (fun i hi => own_e3 i hi)
  have F20 := ((((F13.ext E12).other W16 ne14).other W17 ne14).other W18 ne14)
  obtain ⟨cl19, A19, S19, Nl19, M19⟩ := id F20
  have hin19 : ¬ ((0 : Int32) < 0 ∨ cl19.slots.size ≤ ((0 : Int32)).toNatClampNeg) := AV.inb S19 Nl19 ⟨by decide, by decide⟩
  have hat19 : cl19.slots[((0 : Int32)).toNatClampNeg]? = some (.int ((p2 &&& (15 : Int32)) % (3 : Int32))) := AV.at S19 rfl
  have F22 := ((((V11.ext E12).other W16 ne15).other W17 ne15).other W18 ne15)
  obtain ⟨cl21, A21, S21, Nl21, M21⟩ := id F22
  have hin21 : ¬ ((0 : Int32) < 0 ∨ cl21.slots.size ≤ ((0 : Int32)).toNatClampNeg) := AV.inb S21 Nl21 ⟨by decide, by decide⟩
  have hat21 : cl21.slots[((0 : Int32)).toNatClampNeg]? = some (.int ((p3 &&& (2147483647 : Int32)) % ((p1 &&& (15 : Int32)) + (1 : Int32)))) := AV.at S21 rfl
  obtain ⟨_, _, ⟨T23, L23, k23, n23⟩, -, X23, ⟨Lc23, hQ23, l23, y23, z23⟩, st23⟩ := Jvm.LawKit.callS X18 hx (y := (⟨"com/example/hindsight/hindsight/solvers/BucketQueueMinKeyPinLaw", "note", "([III)V"⟩ : MethodName)) hown (mvT hZ (hw _ (List.mem_of_getElem? (i := 2) rfl))) (mvT hZ (hw _ (List.mem_of_getElem? (i := 3) rfl))) (mvT hZ (hw _ (List.mem_of_getElem? (i := 4) rfl))) (mvT hZ (hw _ (List.mem_of_getElem? (i := 5) rfl))) (by decide) (backOf (W := 0) (rm1 l Z a0 hw [] b12 ((p2 &&& (15 : Int32)) % (3 : Int32)) ((p3 &&& (2147483647 : Int32)) % ((p1 &&& (15 : Int32)) + (1 : Int32))) (fun _ => (-1 : Int32)) h18 n0 (Nat.le_trans Z0 K18.1) Ve0 g_b12 (own_n3 _)) hZ (hw _ (List.mem_of_getElem? (i := 5) rfl)) (hw _ (List.mem_of_getElem? (i := 4) rfl)) (by decide) (by decide)) (g := (mkF m 142 #[.val (.int p1), .val (.int p2), .val (.int p3), .val (.int p4), .val (.int p5), .val (.int p6), .val (.int ((p1 &&& (15 : Int32)) + (1 : Int32))), .val (.ref b1), .val (.ref b6), .val (.ref b12), .unset, .unset, .unset, .unset, .unset, .unset, .unset] [(.int ((p3 &&& (2147483647 : Int32)) % ((p1 &&& (15 : Int32)) + (1 : Int32)))), (.int ((p2 &&& (15 : Int32)) % (3 : Int32))), (.ref b12)])) rfl (by rw [hml]; rfl) (argsL := [(.ref b12), (.int ((p2 &&& (15 : Int32)) % (3 : Int32))), (.int ((p3 &&& (2147483647 : Int32)) % ((p1 &&& (15 : Int32)) + (1 : Int32))))]) (rest := []) (lenOf pd_3 rfl) rfl (by show 2 * 0 + _ ≤ _; exact Nat.le_of_eq rfl) (hb hby at_142) (fun _ _ => ⟨rfl, e18, (by decide : 3 + 0 ≤ _), (by decide : 11 + 0 ≤ _)⟩)
  dsimp only [Pt.U, Pt.locs, Pt.cells, Pt.slots] at X23 l23 y23 z23 st23 hQ23
  first | rw [l23, y23, z23] at X23 | subst l23 y23 z23
  obtain ⟨rfl, N23q, K23, P23_0⟩ := hQ23
  have K24 : Keep h0 T23.heap [] := K18.trans K23 (allS (Or.inr sz_b12) all0)
  have N23 := Fr.app N18 N23q
  have F26 := (F20.keep K23 (ninS ne14 nin0))
  obtain ⟨cl25, A25, S25, Nl25, M25⟩ := id F26
  have hin25 : ¬ ((1 : Int32) < 0 ∨ cl25.slots.size ≤ ((1 : Int32)).toNatClampNeg) := AV.inb S25 Nl25 ⟨by decide, by decide⟩
  have hat25 : cl25.slots[((1 : Int32)).toNatClampNeg]? = some (.int ((((p2.toUInt32 >>> ((4 : Int32) &&& 31).toUInt32).toInt32) &&& (15 : Int32)) % (3 : Int32))) := AV.at S25 rfl
  have F28 := (F22.keep K23 (ninS ne15 nin0))
  obtain ⟨cl27, A27, S27, Nl27, M27⟩ := id F28
  have hin27 : ¬ ((1 : Int32) < 0 ∨ cl27.slots.size ≤ ((1 : Int32)).toNatClampNeg) := AV.inb S27 Nl27 ⟨by decide, by decide⟩
  have hat27 : cl27.slots[((1 : Int32)).toNatClampNeg]? = some (.int ((p4 &&& (2147483647 : Int32)) % ((p1 &&& (15 : Int32)) + (1 : Int32)))) := AV.at S27 rfl
  obtain ⟨_, _, ⟨T29, L29, k29, n29⟩, -, X29, ⟨Lc29, hQ29, l29, y29, z29⟩, st29⟩ := Jvm.LawKit.callS X23 hx (y := (⟨"com/example/hindsight/hindsight/solvers/BucketQueueMinKeyPinLaw", "note", "([III)V"⟩ : MethodName)) hown (mvT hZ (hw _ (List.mem_of_getElem? (i := 2) rfl))) (mvT hZ (hw _ (List.mem_of_getElem? (i := 3) rfl))) (mvT hZ (hw _ (List.mem_of_getElem? (i := 4) rfl))) (mvT hZ (hw _ (List.mem_of_getElem? (i := 5) rfl))) (by decide) (backOf (W := 0) (rm1 l Z a0 hw [] b12 ((((p2.toUInt32 >>> ((4 : Int32) &&& 31).toUInt32).toInt32) &&& (15 : Int32)) % (3 : Int32)) ((p4 &&& (2147483647 : Int32)) % ((p1 &&& (15 : Int32)) + (1 : Int32))) (noteF (fun _ => (-1 : Int32)) ((p2 &&& (15 : Int32)) % (3 : Int32)) ((p3 &&& (2147483647 : Int32)) % ((p1 &&& (15 : Int32)) + (1 : Int32)))) (T23.heap) n0 (Nat.le_trans Z0 K24.1) P23_0 g_b12 (own_n3 _)) hZ (hw _ (List.mem_of_getElem? (i := 5) rfl)) (hw _ (List.mem_of_getElem? (i := 4) rfl)) (by decide) (by decide)) (g := (mkF m 155 #[.val (.int p1), .val (.int p2), .val (.int p3), .val (.int p4), .val (.int p5), .val (.int p6), .val (.int ((p1 &&& (15 : Int32)) + (1 : Int32))), .val (.ref b1), .val (.ref b6), .val (.ref b12), .unset, .unset, .unset, .unset, .unset, .unset, .unset] [(.int ((p4 &&& (2147483647 : Int32)) % ((p1 &&& (15 : Int32)) + (1 : Int32)))), (.int ((((p2.toUInt32 >>> ((4 : Int32) &&& 31).toUInt32).toInt32) &&& (15 : Int32)) % (3 : Int32))), (.ref b12)])) rfl (by rw [hml]; rfl) (argsL := [(.ref b12), (.int ((((p2.toUInt32 >>> ((4 : Int32) &&& 31).toUInt32).toInt32) &&& (15 : Int32)) % (3 : Int32))), (.int ((p4 &&& (2147483647 : Int32)) % ((p1 &&& (15 : Int32)) + (1 : Int32))))]) (rest := []) (lenOf pd_3 rfl) rfl (by show 2 * 0 + _ ≤ _; exact Nat.le_of_eq rfl) (hb hby at_155) (fun _ _ => ⟨rfl, rfl, (by decide : 3 + 0 ≤ _), (by decide : 11 + 0 ≤ _)⟩)
  dsimp only [Pt.U, Pt.locs, Pt.cells, Pt.slots] at X29 l29 y29 z29 st29 hQ29
  first | rw [l29, y29, z29] at X29 | subst l29 y29 z29
  obtain ⟨rfl, N29q, K29, P29_0⟩ := hQ29
  have K30 : Keep h0 T29.heap [] := K24.trans K29 (allS (Or.inr sz_b12) all0)
  have N29 := Fr.app N23 N29q
  have F32 := (F26.keep K29 (ninS ne14 nin0))
  obtain ⟨cl31, A31, S31, Nl31, M31⟩ := id F32
  have hin31 : ¬ ((2 : Int32) < 0 ∨ cl31.slots.size ≤ ((2 : Int32)).toNatClampNeg) := AV.inb S31 Nl31 ⟨by decide, by decide⟩
  have hat31 : cl31.slots[((2 : Int32)).toNatClampNeg]? = some (.int ((((p2.toUInt32 >>> ((8 : Int32) &&& 31).toUInt32).toInt32) &&& (15 : Int32)) % (3 : Int32))) := AV.at S31 rfl
  have F34 := (F28.keep K29 (ninS ne15 nin0))
  obtain ⟨cl33, A33, S33, Nl33, M33⟩ := id F34
  have hin33 : ¬ ((2 : Int32) < 0 ∨ cl33.slots.size ≤ ((2 : Int32)).toNatClampNeg) := AV.inb S33 Nl33 ⟨by decide, by decide⟩
  have hat33 : cl33.slots[((2 : Int32)).toNatClampNeg]? = some (.int ((p5 &&& (2147483647 : Int32)) % ((p1 &&& (15 : Int32)) + (1 : Int32)))) := AV.at S33 rfl
  obtain ⟨_, _, ⟨T35, L35, k35, n35⟩, -, X35, ⟨Lc35, hQ35, l35, y35, z35⟩, st35⟩ := Jvm.LawKit.callS X29 hx (y := (⟨"com/example/hindsight/hindsight/solvers/BucketQueueMinKeyPinLaw", "note", "([III)V"⟩ : MethodName)) hown (mvT hZ (hw _ (List.mem_of_getElem? (i := 2) rfl))) (mvT hZ (hw _ (List.mem_of_getElem? (i := 3) rfl))) (mvT hZ (hw _ (List.mem_of_getElem? (i := 4) rfl))) (mvT hZ (hw _ (List.mem_of_getElem? (i := 5) rfl))) (by decide) (backOf (W := 0) (rm1 l Z a0 hw [] b12 ((((p2.toUInt32 >>> ((8 : Int32) &&& 31).toUInt32).toInt32) &&& (15 : Int32)) % (3 : Int32)) ((p5 &&& (2147483647 : Int32)) % ((p1 &&& (15 : Int32)) + (1 : Int32))) (noteF (noteF (fun _ => (-1 : Int32)) ((p2 &&& (15 : Int32)) % (3 : Int32)) ((p3 &&& (2147483647 : Int32)) % ((p1 &&& (15 : Int32)) + (1 : Int32)))) ((((p2.toUInt32 >>> ((4 : Int32) &&& 31).toUInt32).toInt32) &&& (15 : Int32)) % (3 : Int32)) ((p4 &&& (2147483647 : Int32)) % ((p1 &&& (15 : Int32)) + (1 : Int32)))) (T29.heap) n0 (Nat.le_trans Z0 K30.1) P29_0 g_b12 (own_n3 _)) hZ (hw _ (List.mem_of_getElem? (i := 5) rfl)) (hw _ (List.mem_of_getElem? (i := 4) rfl)) (by decide) (by decide)) (g := (mkF m 168 #[.val (.int p1), .val (.int p2), .val (.int p3), .val (.int p4), .val (.int p5), .val (.int p6), .val (.int ((p1 &&& (15 : Int32)) + (1 : Int32))), .val (.ref b1), .val (.ref b6), .val (.ref b12), .unset, .unset, .unset, .unset, .unset, .unset, .unset] [(.int ((p5 &&& (2147483647 : Int32)) % ((p1 &&& (15 : Int32)) + (1 : Int32)))), (.int ((((p2.toUInt32 >>> ((8 : Int32) &&& 31).toUInt32).toInt32) &&& (15 : Int32)) % (3 : Int32))), (.ref b12)])) rfl (by rw [hml]; rfl) (argsL := [(.ref b12), (.int ((((p2.toUInt32 >>> ((8 : Int32) &&& 31).toUInt32).toInt32) &&& (15 : Int32)) % (3 : Int32))), (.int ((p5 &&& (2147483647 : Int32)) % ((p1 &&& (15 : Int32)) + (1 : Int32))))]) (rest := []) (lenOf pd_3 rfl) rfl (by show 2 * 0 + _ ≤ _; exact Nat.le_of_eq rfl) (hb hby at_168) (fun _ _ => ⟨rfl, rfl, (by decide : 3 + 0 ≤ _), (by decide : 11 + 0 ≤ _)⟩)
  dsimp only [Pt.U, Pt.locs, Pt.cells, Pt.slots] at X35 l35 y35 z35 st35 hQ35
  first | rw [l35, y35, z35] at X35 | subst l35 y35 z35
  obtain ⟨rfl, N35q, K35, P35_0⟩ := hQ35
  have K36 : Keep h0 T35.heap [] := K30.trans K35 (allS (Or.inr sz_b12) all0)
  have N35 := Fr.app N29 N35q
  have F38 := (F32.keep K35 (ninS ne14 nin0))
  obtain ⟨cl37, A37, S37, Nl37, M37⟩ := id F38
  have hin37 : ¬ ((3 : Int32) < 0 ∨ cl37.slots.size ≤ ((3 : Int32)).toNatClampNeg) := AV.inb S37 Nl37 ⟨by decide, by decide⟩
  have hat37 : cl37.slots[((3 : Int32)).toNatClampNeg]? = some (.int ((((p2.toUInt32 >>> ((12 : Int32) &&& 31).toUInt32).toInt32) &&& (15 : Int32)) % (3 : Int32))) := AV.at S37 rfl
  have F40 := (F34.keep K35 (ninS ne15 nin0))
  obtain ⟨cl39, A39, S39, Nl39, M39⟩ := id F40
  have hin39 : ¬ ((3 : Int32) < 0 ∨ cl39.slots.size ≤ ((3 : Int32)).toNatClampNeg) := AV.inb S39 Nl39 ⟨by decide, by decide⟩
  have hat39 : cl39.slots[((3 : Int32)).toNatClampNeg]? = some (.int ((p6 &&& (2147483647 : Int32)) % ((p1 &&& (15 : Int32)) + (1 : Int32)))) := AV.at S39 rfl
  obtain ⟨_, _, ⟨T41, L41, k41, n41⟩, -, X41, ⟨Lc41, hQ41, l41, y41, z41⟩, st41⟩ := Jvm.LawKit.callS X35 hx (y := (⟨"com/example/hindsight/hindsight/solvers/BucketQueueMinKeyPinLaw", "note", "([III)V"⟩ : MethodName)) hown (mvT hZ (hw _ (List.mem_of_getElem? (i := 2) rfl))) (mvT hZ (hw _ (List.mem_of_getElem? (i := 3) rfl))) (mvT hZ (hw _ (List.mem_of_getElem? (i := 4) rfl))) (mvT hZ (hw _ (List.mem_of_getElem? (i := 5) rfl))) (by decide) (backOf (W := 0) (rm1 l Z a0 hw [] b12 ((((p2.toUInt32 >>> ((12 : Int32) &&& 31).toUInt32).toInt32) &&& (15 : Int32)) % (3 : Int32)) ((p6 &&& (2147483647 : Int32)) % ((p1 &&& (15 : Int32)) + (1 : Int32))) (noteF (noteF (noteF (fun _ => (-1 : Int32)) ((p2 &&& (15 : Int32)) % (3 : Int32)) ((p3 &&& (2147483647 : Int32)) % ((p1 &&& (15 : Int32)) + (1 : Int32)))) ((((p2.toUInt32 >>> ((4 : Int32) &&& 31).toUInt32).toInt32) &&& (15 : Int32)) % (3 : Int32)) ((p4 &&& (2147483647 : Int32)) % ((p1 &&& (15 : Int32)) + (1 : Int32)))) ((((p2.toUInt32 >>> ((8 : Int32) &&& 31).toUInt32).toInt32) &&& (15 : Int32)) % (3 : Int32)) ((p5 &&& (2147483647 : Int32)) % ((p1 &&& (15 : Int32)) + (1 : Int32)))) (T35.heap) n0 (Nat.le_trans Z0 K36.1) P35_0 g_b12 (own_n3 _)) hZ (hw _ (List.mem_of_getElem? (i := 5) rfl)) (hw _ (List.mem_of_getElem? (i := 4) rfl)) (by decide) (by decide)) (g := (mkF m 181 #[.val (.int p1), .val (.int p2), .val (.int p3), .val (.int p4), .val (.int p5), .val (.int p6), .val (.int ((p1 &&& (15 : Int32)) + (1 : Int32))), .val (.ref b1), .val (.ref b6), .val (.ref b12), .unset, .unset, .unset, .unset, .unset, .unset, .unset] [(.int ((p6 &&& (2147483647 : Int32)) % ((p1 &&& (15 : Int32)) + (1 : Int32)))), (.int ((((p2.toUInt32 >>> ((12 : Int32) &&& 31).toUInt32).toInt32) &&& (15 : Int32)) % (3 : Int32))), (.ref b12)])) rfl (by rw [hml]; rfl) (argsL := [(.ref b12), (.int ((((p2.toUInt32 >>> ((12 : Int32) &&& 31).toUInt32).toInt32) &&& (15 : Int32)) % (3 : Int32))), (.int ((p6 &&& (2147483647 : Int32)) % ((p1 &&& (15 : Int32)) + (1 : Int32))))]) (rest := []) (lenOf pd_3 rfl) rfl (by show 2 * 0 + _ ≤ _; exact Nat.le_of_eq rfl) (hb hby at_181) (fun _ _ => ⟨rfl, rfl, (by decide : 3 + 0 ≤ _), (by decide : 11 + 0 ≤ _)⟩)
  dsimp only [Pt.U, Pt.locs, Pt.cells, Pt.slots] at X41 l41 y41 z41 st41 hQ41
  first | rw [l41, y41, z41] at X41 | subst l41 y41 z41
  obtain ⟨rfl, N41q, K41, P41_0⟩ := hQ41
  have K42 : Keep h0 T41.heap [] := K36.trans K41 (allS (Or.inr sz_b12) all0)
  have N41 := Fr.app N35 N41q
  obtain ⟨T43, h43, X43, e43, E43, A43, D43, -, st43⟩ := newO X41 hx hZ hown (hw _ (List.mem_of_getElem? (i := 6) rfl)) (hw _ (List.mem_of_getElem? (i := 7) rfl)) (hw _ (List.mem_of_getElem? (i := 8) rfl)) rfl (g := (mkF m 184 #[.val (.int p1), .val (.int p2), .val (.int p3), .val (.int p4), .val (.int p5), .val (.int p6), .val (.int ((p1 &&& (15 : Int32)) + (1 : Int32))), .val (.ref b1), .val (.ref b6), .val (.ref b12), .unset, .unset, .unset, .unset, .unset, .unset, .unset] [])) rfl (hb hby at_184) (by decide) (by decide)
  obtain ⟨b43, g43⟩ : ∃ z, z = T41.heap.size := ⟨_, rfl⟩
  rw [← g43] at A43 D43 st43
  have F44 := (F38.keep K41 (ninS ne14 nin0))
  have ne45 : b1 ≠ b43 := Nat.ne_of_lt (Nat.lt_of_lt_of_le F44.lt (Nat.le_of_eq g43.symm))
  have F46 := (F40.keep K41 (ninS ne15 nin0))
  have ne47 : b6 ≠ b43 := Nat.ne_of_lt (Nat.lt_of_lt_of_le F46.lt (Nat.le_of_eq g43.symm))
  have ne48 : b12 ≠ b43 := Nat.ne_of_lt (Nat.lt_of_lt_of_le P41_0.lt (Nat.le_of_eq g43.symm))
  have g_b43 : n0 ≤ b43 := Nat.le_trans (Nat.le_trans Z0 K42.1) (Nat.le_of_eq g43.symm)
  have sz_b43 : h0.size ≤ b43 := Nat.le_trans K42.1 (Nat.le_of_eq g43.symm)
  have K43 : Keep h0 h43 [] := K42.ext E43
  have F_b43_first : Fld Z h43 b43 "com/example/hindsight/hindsight/solvers/BucketQueue" "first" "[I" .null := D43 (Or.inr (hw _ (List.mem_of_getElem? (i := 16) rfl))) (ty := (.array .int)) (by decide)
  have F_b43_next : Fld Z h43 b43 "com/example/hindsight/hindsight/solvers/BucketQueue" "next" "[I" .null := D43 (Or.inr (hw _ (List.mem_of_getElem? (i := 18) rfl))) (ty := (.array .int)) (by decide)
  have F_b43_previous : Fld Z h43 b43 "com/example/hindsight/hindsight/solvers/BucketQueue" "previous" "[I" .null := D43 (Or.inr (hw _ (List.mem_of_getElem? (i := 20) rfl))) (ty := (.array .int)) (by decide)
  have F_b43_keyOf : Fld Z h43 b43 "com/example/hindsight/hindsight/solvers/BucketQueue" "keyOf" "[I" .null := D43 (Or.inr (hw _ (List.mem_of_getElem? (i := 22) rfl))) (ty := (.array .int)) (by decide)
  have F_b43_cursor : Fld Z h43 b43 "com/example/hindsight/hindsight/solvers/BucketQueue" "cursor" "I" (.int (0 : Int32)) := D43 (Or.inl (hw _ (List.mem_of_getElem? (i := 33) rfl))) (ty := .int) (by decide)
  have F_b43_size : Fld Z h43 b43 "com/example/hindsight/hindsight/solvers/BucketQueue" "size" "I" (.int (0 : Int32)) := D43 (Or.inl (hw _ (List.mem_of_getElem? (i := 35) rfl))) (ty := .int) (by decide)
  obtain ⟨_, _, ⟨T49, L49, k49, n49⟩, -, X49, ⟨Lc49, hQ49, l49, y49, z49⟩, st49⟩ := X43.specialBack hx (y := (⟨"com/example/hindsight/hindsight/solvers/BucketQueue", "<init>", "(II)V"⟩ : MethodName)) rfl hown (mvT hZ (hw _ (List.mem_of_getElem? (i := 9) rfl))) (mvT hZ (hw _ (List.mem_of_getElem? (i := 10) rfl))) (mvT hZ (hw _ (List.mem_of_getElem? (i := 11) rfl))) (by decide) (backOf (W := 1) (rm2 l Z a0 hw [] b43 (((p1 &&& (15 : Int32)) + (1 : Int32)) - (1 : Int32)) h43 n0 (Nat.le_trans Z0 K43.1) A43 g_b43 F_b43_first F_b43_next F_b43_previous F_b43_keyOf F_b43_cursor F_b43_size (own_sp p1)) hZ (hw _ (List.mem_of_getElem? (i := 11) rfl)) (hw _ (List.mem_of_getElem? (i := 8) rfl)) (by decide) (by decide)) (g := (mkF m 193 #[.val (.int p1), .val (.int p2), .val (.int p3), .val (.int p4), .val (.int p5), .val (.int p6), .val (.int ((p1 &&& (15 : Int32)) + (1 : Int32))), .val (.ref b1), .val (.ref b6), .val (.ref b12), .unset, .unset, .unset, .unset, .unset, .unset, .unset] [(.int (((p1 &&& (15 : Int32)) + (1 : Int32)) - (1 : Int32))), (.int (3 : Int32)), (.ref b43), (.ref b43)])) rfl (by rw [hml]; rfl) (Steps.refl _) (a := b43) (argsL := [(.int (3 : Int32)), (.int (((p1 &&& (15 : Int32)) + (1 : Int32)) - (1 : Int32)))]) (rest := [(.ref b43)]) (lenOf pd_2 rfl) rfl (by show 2 * 0 + _ ≤ _; exact Nat.le_of_eq rfl) (hb hby at_193) (fun _ _ => ⟨rfl, e43, (by decide : 4 + 4 ≤ _), (by decide : 17 + 25 ≤ _)⟩)
  dsimp only [Pt.U, Pt.locs, Pt.cells, Pt.slots] at X49 l49 y49 z49 st49 hQ49
  first | rw [l49, y49, z49] at X49 | subst l49 y49 z49
  obtain ⟨r1_49, r2_49, r3_49, r4_49, rfl, N49q, K49, g_r1_49, sz_r1_49, g_r2_49, sz_r2_49, g_r3_49, sz_r3_49, g_r4_49, sz_r4_49, P49_0, P49_1, P49_2, P49_3, P49_4, P49_5, P49_6, P49_7, P49_8, P49_9, P49_10, P49_11, P49_12, P49_13, P49_14, P49_15, P49_16, P49_17, P49_18, P49_19⟩ := hQ49
  have ne50 : b43 ≠ r1_49 := Nat.ne_of_lt (Nat.lt_of_lt_of_le A43.lt sz_r1_49)
  have F51 := (F44.ext E43)
  have ne52 : b1 ≠ r1_49 := Nat.ne_of_lt (Nat.lt_of_lt_of_le F51.lt sz_r1_49)
  have F53 := (F46.ext E43)
  have ne54 : b6 ≠ r1_49 := Nat.ne_of_lt (Nat.lt_of_lt_of_le F53.lt sz_r1_49)
  have F55 := (P41_0.ext E43)
  have ne56 : b12 ≠ r1_49 := Nat.ne_of_lt (Nat.lt_of_lt_of_le F55.lt sz_r1_49)
  have ne57 : b43 ≠ r2_49 := Nat.ne_of_lt (Nat.lt_of_lt_of_le A43.lt sz_r2_49)
  have ne58 : b1 ≠ r2_49 := Nat.ne_of_lt (Nat.lt_of_lt_of_le F51.lt sz_r2_49)
  have ne59 : b6 ≠ r2_49 := Nat.ne_of_lt (Nat.lt_of_lt_of_le F53.lt sz_r2_49)
  have ne60 : b12 ≠ r2_49 := Nat.ne_of_lt (Nat.lt_of_lt_of_le F55.lt sz_r2_49)
  have ne61 : b43 ≠ r3_49 := Nat.ne_of_lt (Nat.lt_of_lt_of_le A43.lt sz_r3_49)
  have ne62 : b1 ≠ r3_49 := Nat.ne_of_lt (Nat.lt_of_lt_of_le F51.lt sz_r3_49)
  have ne63 : b6 ≠ r3_49 := Nat.ne_of_lt (Nat.lt_of_lt_of_le F53.lt sz_r3_49)
  have ne64 : b12 ≠ r3_49 := Nat.ne_of_lt (Nat.lt_of_lt_of_le F55.lt sz_r3_49)
  have ne65 : b43 ≠ r4_49 := Nat.ne_of_lt (Nat.lt_of_lt_of_le A43.lt sz_r4_49)
  have ne66 : b1 ≠ r4_49 := Nat.ne_of_lt (Nat.lt_of_lt_of_le F51.lt sz_r4_49)
  have ne67 : b6 ≠ r4_49 := Nat.ne_of_lt (Nat.lt_of_lt_of_le F53.lt sz_r4_49)
  have ne68 : b12 ≠ r4_49 := Nat.ne_of_lt (Nat.lt_of_lt_of_le F55.lt sz_r4_49)
  have sz69 : h0.size ≤ r1_49 := Nat.le_trans K43.1 sz_r1_49
  have sz70 : h0.size ≤ r2_49 := Nat.le_trans K43.1 sz_r2_49
  have sz71 : h0.size ≤ r3_49 := Nat.le_trans K43.1 sz_r3_49
  have sz72 : h0.size ≤ r4_49 := Nat.le_trans K43.1 sz_r4_49
  have K73 : Keep h0 T49.heap [] := K43.trans K49 (allS (Or.inr sz_b43) all0)
  have N49 := Fr.app N41 N49q
  have F75 := (F51.keep K49 (ninS ne45 nin0))
  obtain ⟨cl74, A74, S74, Nl74, M74⟩ := id F75
  have hin74 : ¬ ((0 : Int32) < 0 ∨ cl74.slots.size ≤ ((0 : Int32)).toNatClampNeg) := AV.inb S74 Nl74 ⟨by decide, by decide⟩
  have hat74 : cl74.slots[((0 : Int32)).toNatClampNeg]? = some (.int ((p2 &&& (15 : Int32)) % (3 : Int32))) := AV.at S74 rfl
  have F77 := (F53.keep K49 (ninS ne47 nin0))
  obtain ⟨cl76, A76, S76, Nl76, M76⟩ := id F77
  have hin76 : ¬ ((0 : Int32) < 0 ∨ cl76.slots.size ≤ ((0 : Int32)).toNatClampNeg) := AV.inb S76 Nl76 ⟨by decide, by decide⟩
  have hat76 : cl76.slots[((0 : Int32)).toNatClampNeg]? = some (.int ((p3 &&& (2147483647 : Int32)) % ((p1 &&& (15 : Int32)) + (1 : Int32)))) := AV.at S76 rfl
  have F78 := (A43.keep K49)
  obtain ⟨cq79, kq79, q79a, q79b, q79c⟩ := isOf hZ rfl F78
  obtain ⟨_, _, ⟨T79, L79, k79, n79⟩, -, X79, ⟨Lc79, hQ79, l79, y79, z79⟩, st79⟩ := X49.virtualBack hx (y := (⟨"com/example/hindsight/hindsight/solvers/BucketQueue", "offer", "(II)V"⟩ : MethodName)) (z := (⟨"com/example/hindsight/hindsight/solvers/BucketQueue", "offer", "(II)V"⟩ : MethodName)) hown (mvT hZ (hw _ (List.mem_of_getElem? (i := 27) rfl))) (mvT hZ (hw _ (List.mem_of_getElem? (i := 28) rfl))) (notFace_of_selects (args := #[]) (mvT hZ (hw _ (List.mem_of_getElem? (i := 30) rfl)))) (mvT hZ (hw _ (List.mem_of_getElem? (i := 30) rfl))) (mvT hZ (hw _ (List.mem_of_getElem? (i := 29) rfl))) (by decide) (backOf (W := 0) (rm5 l Z a0 hw [] b43 ((p2 &&& (15 : Int32)) % (3 : Int32)) ((p3 &&& (2147483647 : Int32)) % ((p1 &&& (15 : Int32)) + (1 : Int32))) r1_49 r2_49 r3_49 r4_49 ((((p1 &&& (15 : Int32)) + (1 : Int32)) - (1 : Int32)) + (1 : Int32)) (0 : Int32) (fun _ => (-1 : Int32)) (fun _ => 0) (fun _ => 0) (fun _ => (-1 : Int32)) (T49.heap) n0 (Nat.le_trans Z0 K73.1) F78 P49_0 P49_1 P49_2 P49_3 P49_4 P49_5 P49_6 P49_7 P49_8 P49_9 g_b43 g_r1_49 g_r2_49 g_r3_49 g_r4_49 P49_10 P49_11 P49_12 P49_13 P49_14 P49_15 P49_16 P49_17 P49_18 P49_19 (own_inv0 _ _ _) (own_n3 _) (own_key p1 _)) hZ (hw _ (List.mem_of_getElem? (i := 31) rfl)) (hw _ (List.mem_of_getElem? (i := 8) rfl)) (by decide) (by decide)) q79a q79c (g := (mkF m 208 #[.val (.int p1), .val (.int p2), .val (.int p3), .val (.int p4), .val (.int p5), .val (.int p6), .val (.int ((p1 &&& (15 : Int32)) + (1 : Int32))), .val (.ref b1), .val (.ref b6), .val (.ref b12), .val (.ref b43), .unset, .unset, .unset, .unset, .unset, .unset] [(.int ((p3 &&& (2147483647 : Int32)) % ((p1 &&& (15 : Int32)) + (1 : Int32)))), (.int ((p2 &&& (15 : Int32)) % (3 : Int32))), (.ref b43)])) rfl (by rw [hml]; rfl) (Steps.refl _) (argsL := [(.int ((p2 &&& (15 : Int32)) % (3 : Int32))), (.int ((p3 &&& (2147483647 : Int32)) % ((p1 &&& (15 : Int32)) + (1 : Int32))))]) (rest := []) (lenOf pd_2 rfl) rfl (by show 2 * 0 + _ ≤ _; exact Nat.le_of_eq rfl) (hb hby at_208) (fun _ _ => ⟨rfl, rfl, (by decide : 8 + 0 ≤ _), (by decide : 42 + 0 ≤ _)⟩)
  dsimp only [Pt.U, Pt.locs, Pt.cells, Pt.slots] at X79 l79 y79 z79 st79 hQ79
  first | rw [l79, y79, z79] at X79 | subst l79 y79 z79
  obtain ⟨g1_79, g2_79, g3_79, g4_79, w1_79, rfl, N79q, K79, P79_0, P79_1, P79_2, P79_3, P79_4, P79_5, P79_6, P79_7, P79_8, P79_9, P79_10, P79_11⟩ := hQ79
  have K80 : Keep h0 T79.heap [] := K73.trans K79 (allS (Or.inr sz_b43) (allS (Or.inr sz69) (allS (Or.inr sz70) (allS (Or.inr sz71) (allS (Or.inr sz72) all0)))))
  have N79 := Fr.app N49 N79q
  have F82 := (F75.keep K79 (ninS ne45 (ninS ne52 (ninS ne58 (ninS ne62 (ninS ne66 nin0))))))
  obtain ⟨cl81, A81, S81, Nl81, M81⟩ := id F82
  have hin81 : ¬ ((1 : Int32) < 0 ∨ cl81.slots.size ≤ ((1 : Int32)).toNatClampNeg) := AV.inb S81 Nl81 ⟨by decide, by decide⟩
  have hat81 : cl81.slots[((1 : Int32)).toNatClampNeg]? = some (.int ((((p2.toUInt32 >>> ((4 : Int32) &&& 31).toUInt32).toInt32) &&& (15 : Int32)) % (3 : Int32))) := AV.at S81 rfl
  have F84 := (F77.keep K79 (ninS ne47 (ninS ne54 (ninS ne59 (ninS ne63 (ninS ne67 nin0))))))
  obtain ⟨cl83, A83, S83, Nl83, M83⟩ := id F84
  have hin83 : ¬ ((1 : Int32) < 0 ∨ cl83.slots.size ≤ ((1 : Int32)).toNatClampNeg) := AV.inb S83 Nl83 ⟨by decide, by decide⟩
  have hat83 : cl83.slots[((1 : Int32)).toNatClampNeg]? = some (.int ((p4 &&& (2147483647 : Int32)) % ((p1 &&& (15 : Int32)) + (1 : Int32)))) := AV.at S83 rfl
  have F85 := (F78.keep K79)
  obtain ⟨cq86, kq86, q86a, q86b, q86c⟩ := isOf hZ rfl F85
  obtain ⟨_, _, ⟨T86, L86, k86, n86⟩, -, X86, ⟨Lc86, hQ86, l86, y86, z86⟩, st86⟩ := X79.virtualBack hx (y := (⟨"com/example/hindsight/hindsight/solvers/BucketQueue", "offer", "(II)V"⟩ : MethodName)) (z := (⟨"com/example/hindsight/hindsight/solvers/BucketQueue", "offer", "(II)V"⟩ : MethodName)) hown (mvT hZ (hw _ (List.mem_of_getElem? (i := 27) rfl))) (mvT hZ (hw _ (List.mem_of_getElem? (i := 28) rfl))) (notFace_of_selects (args := #[]) (mvT hZ (hw _ (List.mem_of_getElem? (i := 30) rfl)))) (mvT hZ (hw _ (List.mem_of_getElem? (i := 30) rfl))) (mvT hZ (hw _ (List.mem_of_getElem? (i := 29) rfl))) (by decide) (backOf (W := 0) (rm5 l Z a0 hw [] b43 ((((p2.toUInt32 >>> ((4 : Int32) &&& 31).toUInt32).toInt32) &&& (15 : Int32)) % (3 : Int32)) ((p4 &&& (2147483647 : Int32)) % ((p1 &&& (15 : Int32)) + (1 : Int32))) r1_49 r2_49 r3_49 r4_49 ((((p1 &&& (15 : Int32)) + (1 : Int32)) - (1 : Int32)) + (1 : Int32)) w1_79 g1_79 g2_79 g3_79 g4_79 (T79.heap) n0 (Nat.le_trans Z0 K80.1) F85 P79_0 P79_1 P79_2 P79_3 P79_4 P79_5 P79_6 P79_7 P79_8 P79_9 g_b43 g_r1_49 g_r2_49 g_r3_49 g_r4_49 P49_10 P49_11 P49_12 P49_13 P49_14 P49_15 P49_16 P49_17 P49_18 P49_19 (P79_10) (own_n3 _) (own_key p1 _)) hZ (hw _ (List.mem_of_getElem? (i := 31) rfl)) (hw _ (List.mem_of_getElem? (i := 8) rfl)) (by decide) (by decide)) q86a q86c (g := (mkF m 221 #[.val (.int p1), .val (.int p2), .val (.int p3), .val (.int p4), .val (.int p5), .val (.int p6), .val (.int ((p1 &&& (15 : Int32)) + (1 : Int32))), .val (.ref b1), .val (.ref b6), .val (.ref b12), .val (.ref b43), .unset, .unset, .unset, .unset, .unset, .unset] [(.int ((p4 &&& (2147483647 : Int32)) % ((p1 &&& (15 : Int32)) + (1 : Int32)))), (.int ((((p2.toUInt32 >>> ((4 : Int32) &&& 31).toUInt32).toInt32) &&& (15 : Int32)) % (3 : Int32))), (.ref b43)])) rfl (by rw [hml]; rfl) (Steps.refl _) (argsL := [(.int ((((p2.toUInt32 >>> ((4 : Int32) &&& 31).toUInt32).toInt32) &&& (15 : Int32)) % (3 : Int32))), (.int ((p4 &&& (2147483647 : Int32)) % ((p1 &&& (15 : Int32)) + (1 : Int32))))]) (rest := []) (lenOf pd_2 rfl) rfl (by show 2 * 0 + _ ≤ _; exact Nat.le_of_eq rfl) (hb hby at_221) (fun _ _ => ⟨rfl, rfl, (by decide : 8 + 0 ≤ _), (by decide : 42 + 0 ≤ _)⟩)
  dsimp only [Pt.U, Pt.locs, Pt.cells, Pt.slots] at X86 l86 y86 z86 st86 hQ86
  first | rw [l86, y86, z86] at X86 | subst l86 y86 z86
  obtain ⟨g1_86, g2_86, g3_86, g4_86, w1_86, rfl, N86q, K86, P86_0, P86_1, P86_2, P86_3, P86_4, P86_5, P86_6, P86_7, P86_8, P86_9, P86_10, P86_11⟩ := hQ86
  have K87 : Keep h0 T86.heap [] := K80.trans K86 (allS (Or.inr sz_b43) (allS (Or.inr sz69) (allS (Or.inr sz70) (allS (Or.inr sz71) (allS (Or.inr sz72) all0)))))
  have N86 := Fr.app N79 N86q
  have F89 := (F82.keep K86 (ninS ne45 (ninS ne52 (ninS ne58 (ninS ne62 (ninS ne66 nin0))))))
  obtain ⟨cl88, A88, S88, Nl88, M88⟩ := id F89
  have hin88 : ¬ ((2 : Int32) < 0 ∨ cl88.slots.size ≤ ((2 : Int32)).toNatClampNeg) := AV.inb S88 Nl88 ⟨by decide, by decide⟩
  have hat88 : cl88.slots[((2 : Int32)).toNatClampNeg]? = some (.int ((((p2.toUInt32 >>> ((8 : Int32) &&& 31).toUInt32).toInt32) &&& (15 : Int32)) % (3 : Int32))) := AV.at S88 rfl
  have F91 := (F84.keep K86 (ninS ne47 (ninS ne54 (ninS ne59 (ninS ne63 (ninS ne67 nin0))))))
  obtain ⟨cl90, A90, S90, Nl90, M90⟩ := id F91
  have hin90 : ¬ ((2 : Int32) < 0 ∨ cl90.slots.size ≤ ((2 : Int32)).toNatClampNeg) := AV.inb S90 Nl90 ⟨by decide, by decide⟩
  have hat90 : cl90.slots[((2 : Int32)).toNatClampNeg]? = some (.int ((p5 &&& (2147483647 : Int32)) % ((p1 &&& (15 : Int32)) + (1 : Int32)))) := AV.at S90 rfl
  have F92 := (F85.keep K86)
  obtain ⟨cq93, kq93, q93a, q93b, q93c⟩ := isOf hZ rfl F92
  obtain ⟨_, _, ⟨T93, L93, k93, n93⟩, -, X93, ⟨Lc93, hQ93, l93, y93, z93⟩, st93⟩ := X86.virtualBack hx (y := (⟨"com/example/hindsight/hindsight/solvers/BucketQueue", "offer", "(II)V"⟩ : MethodName)) (z := (⟨"com/example/hindsight/hindsight/solvers/BucketQueue", "offer", "(II)V"⟩ : MethodName)) hown (mvT hZ (hw _ (List.mem_of_getElem? (i := 27) rfl))) (mvT hZ (hw _ (List.mem_of_getElem? (i := 28) rfl))) (notFace_of_selects (args := #[]) (mvT hZ (hw _ (List.mem_of_getElem? (i := 30) rfl)))) (mvT hZ (hw _ (List.mem_of_getElem? (i := 30) rfl))) (mvT hZ (hw _ (List.mem_of_getElem? (i := 29) rfl))) (by decide) (backOf (W := 0) (rm5 l Z a0 hw [] b43 ((((p2.toUInt32 >>> ((8 : Int32) &&& 31).toUInt32).toInt32) &&& (15 : Int32)) % (3 : Int32)) ((p5 &&& (2147483647 : Int32)) % ((p1 &&& (15 : Int32)) + (1 : Int32))) r1_49 r2_49 r3_49 r4_49 ((((p1 &&& (15 : Int32)) + (1 : Int32)) - (1 : Int32)) + (1 : Int32)) w1_86 g1_86 g2_86 g3_86 g4_86 (T86.heap) n0 (Nat.le_trans Z0 K87.1) F92 P86_0 P86_1 P86_2 P86_3 P86_4 P86_5 P86_6 P86_7 P86_8 P86_9 g_b43 g_r1_49 g_r2_49 g_r3_49 g_r4_49 P49_10 P49_11 P49_12 P49_13 P49_14 P49_15 P49_16 P49_17 P49_18 P49_19 (P86_10) (own_n3 _) (own_key p1 _)) hZ (hw _ (List.mem_of_getElem? (i := 31) rfl)) (hw _ (List.mem_of_getElem? (i := 8) rfl)) (by decide) (by decide)) q93a q93c (g := (mkF m 234 #[.val (.int p1), .val (.int p2), .val (.int p3), .val (.int p4), .val (.int p5), .val (.int p6), .val (.int ((p1 &&& (15 : Int32)) + (1 : Int32))), .val (.ref b1), .val (.ref b6), .val (.ref b12), .val (.ref b43), .unset, .unset, .unset, .unset, .unset, .unset] [(.int ((p5 &&& (2147483647 : Int32)) % ((p1 &&& (15 : Int32)) + (1 : Int32)))), (.int ((((p2.toUInt32 >>> ((8 : Int32) &&& 31).toUInt32).toInt32) &&& (15 : Int32)) % (3 : Int32))), (.ref b43)])) rfl (by rw [hml]; rfl) (Steps.refl _) (argsL := [(.int ((((p2.toUInt32 >>> ((8 : Int32) &&& 31).toUInt32).toInt32) &&& (15 : Int32)) % (3 : Int32))), (.int ((p5 &&& (2147483647 : Int32)) % ((p1 &&& (15 : Int32)) + (1 : Int32))))]) (rest := []) (lenOf pd_2 rfl) rfl (by show 2 * 0 + _ ≤ _; exact Nat.le_of_eq rfl) (hb hby at_234) (fun _ _ => ⟨rfl, rfl, (by decide : 8 + 0 ≤ _), (by decide : 42 + 0 ≤ _)⟩)
  dsimp only [Pt.U, Pt.locs, Pt.cells, Pt.slots] at X93 l93 y93 z93 st93 hQ93
  first | rw [l93, y93, z93] at X93 | subst l93 y93 z93
  obtain ⟨g1_93, g2_93, g3_93, g4_93, w1_93, rfl, N93q, K93, P93_0, P93_1, P93_2, P93_3, P93_4, P93_5, P93_6, P93_7, P93_8, P93_9, P93_10, P93_11⟩ := hQ93
  have K94 : Keep h0 T93.heap [] := K87.trans K93 (allS (Or.inr sz_b43) (allS (Or.inr sz69) (allS (Or.inr sz70) (allS (Or.inr sz71) (allS (Or.inr sz72) all0)))))
  have N93 := Fr.app N86 N93q
  have F96 := (F89.keep K93 (ninS ne45 (ninS ne52 (ninS ne58 (ninS ne62 (ninS ne66 nin0))))))
  obtain ⟨cl95, A95, S95, Nl95, M95⟩ := id F96
  have hin95 : ¬ ((3 : Int32) < 0 ∨ cl95.slots.size ≤ ((3 : Int32)).toNatClampNeg) := AV.inb S95 Nl95 ⟨by decide, by decide⟩
  have hat95 : cl95.slots[((3 : Int32)).toNatClampNeg]? = some (.int ((((p2.toUInt32 >>> ((12 : Int32) &&& 31).toUInt32).toInt32) &&& (15 : Int32)) % (3 : Int32))) := AV.at S95 rfl
  have F98 := (F91.keep K93 (ninS ne47 (ninS ne54 (ninS ne59 (ninS ne63 (ninS ne67 nin0))))))
  obtain ⟨cl97, A97, S97, Nl97, M97⟩ := id F98
  have hin97 : ¬ ((3 : Int32) < 0 ∨ cl97.slots.size ≤ ((3 : Int32)).toNatClampNeg) := AV.inb S97 Nl97 ⟨by decide, by decide⟩
  have hat97 : cl97.slots[((3 : Int32)).toNatClampNeg]? = some (.int ((p6 &&& (2147483647 : Int32)) % ((p1 &&& (15 : Int32)) + (1 : Int32)))) := AV.at S97 rfl
  have F99 := (F92.keep K93)
  obtain ⟨cq100, kq100, q100a, q100b, q100c⟩ := isOf hZ rfl F99
  obtain ⟨_, _, ⟨T100, L100, k100, n100⟩, -, X100, ⟨Lc100, hQ100, l100, y100, z100⟩, st100⟩ := X93.virtualBack hx (y := (⟨"com/example/hindsight/hindsight/solvers/BucketQueue", "offer", "(II)V"⟩ : MethodName)) (z := (⟨"com/example/hindsight/hindsight/solvers/BucketQueue", "offer", "(II)V"⟩ : MethodName)) hown (mvT hZ (hw _ (List.mem_of_getElem? (i := 27) rfl))) (mvT hZ (hw _ (List.mem_of_getElem? (i := 28) rfl))) (notFace_of_selects (args := #[]) (mvT hZ (hw _ (List.mem_of_getElem? (i := 30) rfl)))) (mvT hZ (hw _ (List.mem_of_getElem? (i := 30) rfl))) (mvT hZ (hw _ (List.mem_of_getElem? (i := 29) rfl))) (by decide) (backOf (W := 0) (rm5 l Z a0 hw [] b43 ((((p2.toUInt32 >>> ((12 : Int32) &&& 31).toUInt32).toInt32) &&& (15 : Int32)) % (3 : Int32)) ((p6 &&& (2147483647 : Int32)) % ((p1 &&& (15 : Int32)) + (1 : Int32))) r1_49 r2_49 r3_49 r4_49 ((((p1 &&& (15 : Int32)) + (1 : Int32)) - (1 : Int32)) + (1 : Int32)) w1_93 g1_93 g2_93 g3_93 g4_93 (T93.heap) n0 (Nat.le_trans Z0 K94.1) F99 P93_0 P93_1 P93_2 P93_3 P93_4 P93_5 P93_6 P93_7 P93_8 P93_9 g_b43 g_r1_49 g_r2_49 g_r3_49 g_r4_49 P49_10 P49_11 P49_12 P49_13 P49_14 P49_15 P49_16 P49_17 P49_18 P49_19 (P93_10) (own_n3 _) (own_key p1 _)) hZ (hw _ (List.mem_of_getElem? (i := 31) rfl)) (hw _ (List.mem_of_getElem? (i := 8) rfl)) (by decide) (by decide)) q100a q100c (g := (mkF m 247 #[.val (.int p1), .val (.int p2), .val (.int p3), .val (.int p4), .val (.int p5), .val (.int p6), .val (.int ((p1 &&& (15 : Int32)) + (1 : Int32))), .val (.ref b1), .val (.ref b6), .val (.ref b12), .val (.ref b43), .unset, .unset, .unset, .unset, .unset, .unset] [(.int ((p6 &&& (2147483647 : Int32)) % ((p1 &&& (15 : Int32)) + (1 : Int32)))), (.int ((((p2.toUInt32 >>> ((12 : Int32) &&& 31).toUInt32).toInt32) &&& (15 : Int32)) % (3 : Int32))), (.ref b43)])) rfl (by rw [hml]; rfl) (Steps.refl _) (argsL := [(.int ((((p2.toUInt32 >>> ((12 : Int32) &&& 31).toUInt32).toInt32) &&& (15 : Int32)) % (3 : Int32))), (.int ((p6 &&& (2147483647 : Int32)) % ((p1 &&& (15 : Int32)) + (1 : Int32))))]) (rest := []) (lenOf pd_2 rfl) rfl (by show 2 * 0 + _ ≤ _; exact Nat.le_of_eq rfl) (hb hby at_247) (fun _ _ => ⟨rfl, rfl, (by decide : 8 + 0 ≤ _), (by decide : 42 + 0 ≤ _)⟩)
  dsimp only [Pt.U, Pt.locs, Pt.cells, Pt.slots] at X100 l100 y100 z100 st100 hQ100
  first | rw [l100, y100, z100] at X100 | subst l100 y100 z100
  obtain ⟨g1_100, g2_100, g3_100, g4_100, w1_100, rfl, N100q, K100, P100_0, P100_1, P100_2, P100_3, P100_4, P100_5, P100_6, P100_7, P100_8, P100_9, P100_10, P100_11⟩ := hQ100
  have K101 : Keep h0 T100.heap [] := K94.trans K100 (allS (Or.inr sz_b43) (allS (Or.inr sz69) (allS (Or.inr sz70) (allS (Or.inr sz71) (allS (Or.inr sz72) all0)))))
  have N100 := Fr.app N93 N100q
  have F102 := (((((F55.keep K49 (ninS ne48 nin0)).keep K79 (ninS ne48 (ninS ne56 (ninS ne60 (ninS ne64 (ninS ne68 nin0)))))).keep K86 (ninS ne48 (ninS ne56 (ninS ne60 (ninS ne64 (ninS ne68 nin0)))))).keep K93 (ninS ne48 (ninS ne56 (ninS ne60 (ninS ne64 (ninS ne68 nin0)))))).keep K100 (ninS ne48 (ninS ne56 (ninS ne60 (ninS ne64 (ninS ne68 nin0))))))
  have hke0 : ∀ i, i < 3 → g4_100 i = (noteF (noteF (noteF (noteF (fun _ => (-1 : Int32)) ((p2 &&& (15 : Int32)) % (3 : Int32)) ((p3 &&& (2147483647 : Int32)) % ((p1 &&& (15 : Int32)) + (1 : Int32)))) ((((p2.toUInt32 >>> ((4 : Int32) &&& 31).toUInt32).toInt32) &&& (15 : Int32)) % (3 : Int32)) ((p4 &&& (2147483647 : Int32)) % ((p1 &&& (15 : Int32)) + (1 : Int32)))) ((((p2.toUInt32 >>> ((8 : Int32) &&& 31).toUInt32).toInt32) &&& (15 : Int32)) % (3 : Int32)) ((p5 &&& (2147483647 : Int32)) % ((p1 &&& (15 : Int32)) + (1 : Int32)))) ((((p2.toUInt32 >>> ((12 : Int32) &&& 31).toUInt32).toInt32) &&& (15 : Int32)) % (3 : Int32)) ((p6 &&& (2147483647 : Int32)) % ((p1 &&& (15 : Int32)) + (1 : Int32)))) i := fun i hi => (P100_11 i hi).trans (own_np ((P93_11 i hi).trans (own_np ((P86_11 i hi).trans (own_np (P79_11 i hi))))))
  have hps0 : ∃ i, i < 3 ∧ 0 ≤ ((noteF (noteF (noteF (noteF (fun _ => (-1 : Int32)) ((p2 &&& (15 : Int32)) % (3 : Int32)) ((p3 &&& (2147483647 : Int32)) % ((p1 &&& (15 : Int32)) + (1 : Int32)))) ((((p2.toUInt32 >>> ((4 : Int32) &&& 31).toUInt32).toInt32) &&& (15 : Int32)) % (3 : Int32)) ((p4 &&& (2147483647 : Int32)) % ((p1 &&& (15 : Int32)) + (1 : Int32)))) ((((p2.toUInt32 >>> ((8 : Int32) &&& 31).toUInt32).toInt32) &&& (15 : Int32)) % (3 : Int32)) ((p5 &&& (2147483647 : Int32)) % ((p1 &&& (15 : Int32)) + (1 : Int32)))) ((((p2.toUInt32 >>> ((12 : Int32) &&& 31).toUInt32).toInt32) &&& (15 : Int32)) % (3 : Int32)) ((p6 &&& (2147483647 : Int32)) % ((p1 &&& (15 : Int32)) + (1 : Int32)))) i).toInt := ⟨_, (own_range (own_n3 p2)).1, own_nk (own_key p1 _).1 (own_nk (own_key p1 _).1 (own_nk (own_key p1 _).1 (own_n0 (own_key p1 _).1)))⟩
  obtain ⟨ef, hef⟩ : ∃ ef : Nat → Int32, ef = (noteF (noteF (noteF (noteF (fun _ => (-1 : Int32)) ((p2 &&& (15 : Int32)) % (3 : Int32)) ((p3 &&& (2147483647 : Int32)) % ((p1 &&& (15 : Int32)) + (1 : Int32)))) ((((p2.toUInt32 >>> ((4 : Int32) &&& 31).toUInt32).toInt32) &&& (15 : Int32)) % (3 : Int32)) ((p4 &&& (2147483647 : Int32)) % ((p1 &&& (15 : Int32)) + (1 : Int32)))) ((((p2.toUInt32 >>> ((8 : Int32) &&& 31).toUInt32).toInt32) &&& (15 : Int32)) % (3 : Int32)) ((p5 &&& (2147483647 : Int32)) % ((p1 &&& (15 : Int32)) + (1 : Int32)))) ((((p2.toUInt32 >>> ((12 : Int32) &&& 31).toUInt32).toInt32) &&& (15 : Int32)) % (3 : Int32)) ((p6 &&& (2147483647 : Int32)) % ((p1 &&& (15 : Int32)) + (1 : Int32)))) := ⟨_, rfl⟩
  have Ve : AI Z T100.heap b12 .int (3 : Int32) ef := by rw [hef]; exact F102
  have hke : ∀ i, i < 3 → g4_100 i = ef i := fun i hi => by rw [hef]; exact hke0 i hi
  have hps : ∃ i, i < 3 ∧ 0 ≤ (ef i).toInt := by rw [hef]; exact hps0
  have hrg : ∀ i, i < 3 → ef i = -1 ∨ (0 ≤ (ef i).toInt ∧ (ef i).toInt < 16 + 1) := fun i hi => by rw [← hke i hi]; have hs := own_sp p1; by_cases q : g4_100 i = -1; exact Or.inl q; have q2 := own_inr P100_10 hi q; exact Or.inr ⟨q2.1, by omega⟩
  have hex1 : ∃ i, i < 3 ∧ g4_100 i ≠ -1 := by obtain ⟨i, hi, h⟩ := hps; exact ⟨i, hi, by rw [hke i hi]; intro q; rw [q] at h; exact absurd h (by decide)⟩
  have hlo1 : ∀ i, i < 3 → g4_100 i ≠ -1 → (0 : Int32).toInt ≤ (g4_100 i).toInt := fun i hi hw' => (own_inr P100_10 hi hw').1
  obtain ⟨cl103, A103, S103, M103, G103⟩ := id Ve
  have hin103 : ¬ ((0 : Int32) < 0 ∨ cl103.slots.size ≤ ((0 : Int32)).toNatClampNeg) := inb_of S103 ⟨by decide, by decide⟩
  have hat103 : cl103.slots[((0 : Int32)).toNatClampNeg]? = some (.int (ef ((0 : Int32)).toNatClampNeg)) := AI.at S103 G103 hin103
  have pre104 : ∀ t, Steps p.tables e below (T100.setTop (mkF m 273 #[.val (.int p1), .val (.int p2), .val (.int p3), .val (.int p4), .val (.int p5), .val (.int p6), .val (.int ((p1 &&& (15 : Int32)) + (1 : Int32))), .val (.ref b1), .val (.ref b6), .val (.ref b12), .val (.ref b43), .val (.int (2147483647 : Int32)), .val (.int (0 : Int32)), .val (.int (2147483647 : Int32)), .val (.int (2147483647 : Int32)), .val (.int (2147483647 : Int32)), .unset] [(.int (ef ((0 : Int32)).toNatClampNeg))])) t → Steps p.tables e below (s₁.setTop (entryFrame m #[(.int p1), (.int p2), (.int p3), (.int p4), (.int p5), (.int p6)] maxLocals)) t := fun t k => pre0 t (by
    show Steps p.tables e below (s₁.setTop (mkF m 0 #[.val (.int p1), .val (.int p2), .val (.int p3), .val (.int p4), .val (.int p5), .val (.int p6), .unset, .unset, .unset, .unset, .unset, .unset, .unset, .unset, .unset, .unset, .unset] [])) _
    refine XS.iloadN X0.here hx rfl (hb hby at_0) rfl ?_
    show Steps p.tables e below (s₁.setTop (mkF m 1 #[.val (.int p1), .val (.int p2), .val (.int p3), .val (.int p4), .val (.int p5), .val (.int p6), .unset, .unset, .unset, .unset, .unset, .unset, .unset, .unset, .unset, .unset, .unset] [(.int p1)])) _
    refine XS.bipush X0.here hx rfl (hb hby at_1) ?_
    show Steps p.tables e below (s₁.setTop (mkF m 3 #[.val (.int p1), .val (.int p2), .val (.int p3), .val (.int p4), .val (.int p5), .val (.int p6), .unset, .unset, .unset, .unset, .unset, .unset, .unset, .unset, .unset, .unset, .unset] [(.int (15 : Int32)), (.int p1)])) _
    refine XS.iand X0.here hx rfl (hb hby at_3) rfl ?_
    show Steps p.tables e below (s₁.setTop (mkF m 4 #[.val (.int p1), .val (.int p2), .val (.int p3), .val (.int p4), .val (.int p5), .val (.int p6), .unset, .unset, .unset, .unset, .unset, .unset, .unset, .unset, .unset, .unset, .unset] [(.int (p1 &&& (15 : Int32)))])) _
    refine XS.iconst X0.here hx rfl (hb hby at_4) ?_
    show Steps p.tables e below (s₁.setTop (mkF m 5 #[.val (.int p1), .val (.int p2), .val (.int p3), .val (.int p4), .val (.int p5), .val (.int p6), .unset, .unset, .unset, .unset, .unset, .unset, .unset, .unset, .unset, .unset, .unset] [(.int (1 : Int32)), (.int (p1 &&& (15 : Int32)))])) _
    refine XS.iadd X0.here hx rfl (hb hby at_5) rfl ?_
    show Steps p.tables e below (s₁.setTop (mkF m 6 #[.val (.int p1), .val (.int p2), .val (.int p3), .val (.int p4), .val (.int p5), .val (.int p6), .unset, .unset, .unset, .unset, .unset, .unset, .unset, .unset, .unset, .unset, .unset] [(.int ((p1 &&& (15 : Int32)) + (1 : Int32)))])) _
    refine XS.istore X0.here hx rfl (hb hby at_6) rfl (l' := #[.val (.int p1), .val (.int p2), .val (.int p3), .val (.int p4), .val (.int p5), .val (.int p6), .val (.int ((p1 &&& (15 : Int32)) + (1 : Int32))), .unset, .unset, .unset, .unset, .unset, .unset, .unset, .unset, .unset, .unset]) rfl ?_
    show Steps p.tables e below (s₁.setTop (mkF m 8 #[.val (.int p1), .val (.int p2), .val (.int p3), .val (.int p4), .val (.int p5), .val (.int p6), .val (.int ((p1 &&& (15 : Int32)) + (1 : Int32))), .unset, .unset, .unset, .unset, .unset, .unset, .unset, .unset, .unset, .unset] [])) _
    refine XS.iconst X0.here hx rfl (hb hby at_8) ?_
    show Steps p.tables e below (s₁.setTop (mkF m 9 #[.val (.int p1), .val (.int p2), .val (.int p3), .val (.int p4), .val (.int p5), .val (.int p6), .val (.int ((p1 &&& (15 : Int32)) + (1 : Int32))), .unset, .unset, .unset, .unset, .unset, .unset, .unset, .unset, .unset, .unset] [(.int (4 : Int32))])) _
    refine st1 _ ?_
    show Steps p.tables e below (T1.setTop (mkF m 11 #[.val (.int p1), .val (.int p2), .val (.int p3), .val (.int p4), .val (.int p5), .val (.int p6), .val (.int ((p1 &&& (15 : Int32)) + (1 : Int32))), .unset, .unset, .unset, .unset, .unset, .unset, .unset, .unset, .unset, .unset] [(.ref b1)])) _
    refine XS.astore X1.here hx rfl (hb hby at_11) rfl rfl (l' := #[.val (.int p1), .val (.int p2), .val (.int p3), .val (.int p4), .val (.int p5), .val (.int p6), .val (.int ((p1 &&& (15 : Int32)) + (1 : Int32))), .val (.ref b1), .unset, .unset, .unset, .unset, .unset, .unset, .unset, .unset, .unset]) rfl ?_
    show Steps p.tables e below (T1.setTop (mkF m 13 #[.val (.int p1), .val (.int p2), .val (.int p3), .val (.int p4), .val (.int p5), .val (.int p6), .val (.int ((p1 &&& (15 : Int32)) + (1 : Int32))), .val (.ref b1), .unset, .unset, .unset, .unset, .unset, .unset, .unset, .unset, .unset] [])) _
    refine XS.aload X1.here hx rfl (hb hby at_13) rfl rfl ?_
    show Steps p.tables e below (T1.setTop (mkF m 15 #[.val (.int p1), .val (.int p2), .val (.int p3), .val (.int p4), .val (.int p5), .val (.int p6), .val (.int ((p1 &&& (15 : Int32)) + (1 : Int32))), .val (.ref b1), .unset, .unset, .unset, .unset, .unset, .unset, .unset, .unset, .unset] [(.ref b1)])) _
    refine XS.iconst X1.here hx rfl (hb hby at_15) ?_
    show Steps p.tables e below (T1.setTop (mkF m 16 #[.val (.int p1), .val (.int p2), .val (.int p3), .val (.int p4), .val (.int p5), .val (.int p6), .val (.int ((p1 &&& (15 : Int32)) + (1 : Int32))), .val (.ref b1), .unset, .unset, .unset, .unset, .unset, .unset, .unset, .unset, .unset] [(.int (0 : Int32)), (.ref b1)])) _
    refine XS.iloadN X1.here hx rfl (hb hby at_16) rfl ?_
    show Steps p.tables e below (T1.setTop (mkF m 17 #[.val (.int p1), .val (.int p2), .val (.int p3), .val (.int p4), .val (.int p5), .val (.int p6), .val (.int ((p1 &&& (15 : Int32)) + (1 : Int32))), .val (.ref b1), .unset, .unset, .unset, .unset, .unset, .unset, .unset, .unset, .unset] [(.int p2), (.int (0 : Int32)), (.ref b1)])) _
    refine XS.bipush X1.here hx rfl (hb hby at_17) ?_
    show Steps p.tables e below (T1.setTop (mkF m 19 #[.val (.int p1), .val (.int p2), .val (.int p3), .val (.int p4), .val (.int p5), .val (.int p6), .val (.int ((p1 &&& (15 : Int32)) + (1 : Int32))), .val (.ref b1), .unset, .unset, .unset, .unset, .unset, .unset, .unset, .unset, .unset] [(.int (15 : Int32)), (.int p2), (.int (0 : Int32)), (.ref b1)])) _
    refine XS.iand X1.here hx rfl (hb hby at_19) rfl ?_
    show Steps p.tables e below (T1.setTop (mkF m 20 #[.val (.int p1), .val (.int p2), .val (.int p3), .val (.int p4), .val (.int p5), .val (.int p6), .val (.int ((p1 &&& (15 : Int32)) + (1 : Int32))), .val (.ref b1), .unset, .unset, .unset, .unset, .unset, .unset, .unset, .unset, .unset] [(.int (p2 &&& (15 : Int32))), (.int (0 : Int32)), (.ref b1)])) _
    refine XS.iconst X1.here hx rfl (hb hby at_20) ?_
    show Steps p.tables e below (T1.setTop (mkF m 21 #[.val (.int p1), .val (.int p2), .val (.int p3), .val (.int p4), .val (.int p5), .val (.int p6), .val (.int ((p1 &&& (15 : Int32)) + (1 : Int32))), .val (.ref b1), .unset, .unset, .unset, .unset, .unset, .unset, .unset, .unset, .unset] [(.int (3 : Int32)), (.int (p2 &&& (15 : Int32))), (.int (0 : Int32)), (.ref b1)])) _
    refine iremM X1 hx rfl (hb hby at_21) rfl (by decide) ?_
    show Steps p.tables e below (T1.setTop (mkF m 22 #[.val (.int p1), .val (.int p2), .val (.int p3), .val (.int p4), .val (.int p5), .val (.int p6), .val (.int ((p1 &&& (15 : Int32)) + (1 : Int32))), .val (.ref b1), .unset, .unset, .unset, .unset, .unset, .unset, .unset, .unset, .unset] [(.int ((p2 &&& (15 : Int32)) % (3 : Int32))), (.int (0 : Int32)), (.ref b1)])) _
    refine st2 _ ?_
    show Steps p.tables e below (T2.setTop (mkF m 23 #[.val (.int p1), .val (.int p2), .val (.int p3), .val (.int p4), .val (.int p5), .val (.int p6), .val (.int ((p1 &&& (15 : Int32)) + (1 : Int32))), .val (.ref b1), .unset, .unset, .unset, .unset, .unset, .unset, .unset, .unset, .unset] [])) _
    refine XS.aload X2.here hx rfl (hb hby at_23) rfl rfl ?_
    show Steps p.tables e below (T2.setTop (mkF m 25 #[.val (.int p1), .val (.int p2), .val (.int p3), .val (.int p4), .val (.int p5), .val (.int p6), .val (.int ((p1 &&& (15 : Int32)) + (1 : Int32))), .val (.ref b1), .unset, .unset, .unset, .unset, .unset, .unset, .unset, .unset, .unset] [(.ref b1)])) _
    refine XS.iconst X2.here hx rfl (hb hby at_25) ?_
    show Steps p.tables e below (T2.setTop (mkF m 26 #[.val (.int p1), .val (.int p2), .val (.int p3), .val (.int p4), .val (.int p5), .val (.int p6), .val (.int ((p1 &&& (15 : Int32)) + (1 : Int32))), .val (.ref b1), .unset, .unset, .unset, .unset, .unset, .unset, .unset, .unset, .unset] [(.int (1 : Int32)), (.ref b1)])) _
    refine XS.iloadN X2.here hx rfl (hb hby at_26) rfl ?_
    show Steps p.tables e below (T2.setTop (mkF m 27 #[.val (.int p1), .val (.int p2), .val (.int p3), .val (.int p4), .val (.int p5), .val (.int p6), .val (.int ((p1 &&& (15 : Int32)) + (1 : Int32))), .val (.ref b1), .unset, .unset, .unset, .unset, .unset, .unset, .unset, .unset, .unset] [(.int p2), (.int (1 : Int32)), (.ref b1)])) _
    refine XS.iconst X2.here hx rfl (hb hby at_27) ?_
    show Steps p.tables e below (T2.setTop (mkF m 28 #[.val (.int p1), .val (.int p2), .val (.int p3), .val (.int p4), .val (.int p5), .val (.int p6), .val (.int ((p1 &&& (15 : Int32)) + (1 : Int32))), .val (.ref b1), .unset, .unset, .unset, .unset, .unset, .unset, .unset, .unset, .unset] [(.int (4 : Int32)), (.int p2), (.int (1 : Int32)), (.ref b1)])) _
    refine XS.iushr X2.here hx rfl (hb hby at_28) rfl ?_
    show Steps p.tables e below (T2.setTop (mkF m 29 #[.val (.int p1), .val (.int p2), .val (.int p3), .val (.int p4), .val (.int p5), .val (.int p6), .val (.int ((p1 &&& (15 : Int32)) + (1 : Int32))), .val (.ref b1), .unset, .unset, .unset, .unset, .unset, .unset, .unset, .unset, .unset] [(.int ((p2.toUInt32 >>> ((4 : Int32) &&& 31).toUInt32).toInt32)), (.int (1 : Int32)), (.ref b1)])) _
    refine XS.bipush X2.here hx rfl (hb hby at_29) ?_
    show Steps p.tables e below (T2.setTop (mkF m 31 #[.val (.int p1), .val (.int p2), .val (.int p3), .val (.int p4), .val (.int p5), .val (.int p6), .val (.int ((p1 &&& (15 : Int32)) + (1 : Int32))), .val (.ref b1), .unset, .unset, .unset, .unset, .unset, .unset, .unset, .unset, .unset] [(.int (15 : Int32)), (.int ((p2.toUInt32 >>> ((4 : Int32) &&& 31).toUInt32).toInt32)), (.int (1 : Int32)), (.ref b1)])) _
    refine XS.iand X2.here hx rfl (hb hby at_31) rfl ?_
    show Steps p.tables e below (T2.setTop (mkF m 32 #[.val (.int p1), .val (.int p2), .val (.int p3), .val (.int p4), .val (.int p5), .val (.int p6), .val (.int ((p1 &&& (15 : Int32)) + (1 : Int32))), .val (.ref b1), .unset, .unset, .unset, .unset, .unset, .unset, .unset, .unset, .unset] [(.int (((p2.toUInt32 >>> ((4 : Int32) &&& 31).toUInt32).toInt32) &&& (15 : Int32))), (.int (1 : Int32)), (.ref b1)])) _
    refine XS.iconst X2.here hx rfl (hb hby at_32) ?_
    show Steps p.tables e below (T2.setTop (mkF m 33 #[.val (.int p1), .val (.int p2), .val (.int p3), .val (.int p4), .val (.int p5), .val (.int p6), .val (.int ((p1 &&& (15 : Int32)) + (1 : Int32))), .val (.ref b1), .unset, .unset, .unset, .unset, .unset, .unset, .unset, .unset, .unset] [(.int (3 : Int32)), (.int (((p2.toUInt32 >>> ((4 : Int32) &&& 31).toUInt32).toInt32) &&& (15 : Int32))), (.int (1 : Int32)), (.ref b1)])) _
    refine iremM X2 hx rfl (hb hby at_33) rfl (by decide) ?_
    show Steps p.tables e below (T2.setTop (mkF m 34 #[.val (.int p1), .val (.int p2), .val (.int p3), .val (.int p4), .val (.int p5), .val (.int p6), .val (.int ((p1 &&& (15 : Int32)) + (1 : Int32))), .val (.ref b1), .unset, .unset, .unset, .unset, .unset, .unset, .unset, .unset, .unset] [(.int ((((p2.toUInt32 >>> ((4 : Int32) &&& 31).toUInt32).toInt32) &&& (15 : Int32)) % (3 : Int32))), (.int (1 : Int32)), (.ref b1)])) _
    refine st3 _ ?_
    show Steps p.tables e below (T3.setTop (mkF m 35 #[.val (.int p1), .val (.int p2), .val (.int p3), .val (.int p4), .val (.int p5), .val (.int p6), .val (.int ((p1 &&& (15 : Int32)) + (1 : Int32))), .val (.ref b1), .unset, .unset, .unset, .unset, .unset, .unset, .unset, .unset, .unset] [])) _
    refine XS.aload X3.here hx rfl (hb hby at_35) rfl rfl ?_
    show Steps p.tables e below (T3.setTop (mkF m 37 #[.val (.int p1), .val (.int p2), .val (.int p3), .val (.int p4), .val (.int p5), .val (.int p6), .val (.int ((p1 &&& (15 : Int32)) + (1 : Int32))), .val (.ref b1), .unset, .unset, .unset, .unset, .unset, .unset, .unset, .unset, .unset] [(.ref b1)])) _
    refine XS.iconst X3.here hx rfl (hb hby at_37) ?_
    show Steps p.tables e below (T3.setTop (mkF m 38 #[.val (.int p1), .val (.int p2), .val (.int p3), .val (.int p4), .val (.int p5), .val (.int p6), .val (.int ((p1 &&& (15 : Int32)) + (1 : Int32))), .val (.ref b1), .unset, .unset, .unset, .unset, .unset, .unset, .unset, .unset, .unset] [(.int (2 : Int32)), (.ref b1)])) _
    refine XS.iloadN X3.here hx rfl (hb hby at_38) rfl ?_
    show Steps p.tables e below (T3.setTop (mkF m 39 #[.val (.int p1), .val (.int p2), .val (.int p3), .val (.int p4), .val (.int p5), .val (.int p6), .val (.int ((p1 &&& (15 : Int32)) + (1 : Int32))), .val (.ref b1), .unset, .unset, .unset, .unset, .unset, .unset, .unset, .unset, .unset] [(.int p2), (.int (2 : Int32)), (.ref b1)])) _
    refine XS.bipush X3.here hx rfl (hb hby at_39) ?_
    show Steps p.tables e below (T3.setTop (mkF m 41 #[.val (.int p1), .val (.int p2), .val (.int p3), .val (.int p4), .val (.int p5), .val (.int p6), .val (.int ((p1 &&& (15 : Int32)) + (1 : Int32))), .val (.ref b1), .unset, .unset, .unset, .unset, .unset, .unset, .unset, .unset, .unset] [(.int (8 : Int32)), (.int p2), (.int (2 : Int32)), (.ref b1)])) _
    refine XS.iushr X3.here hx rfl (hb hby at_41) rfl ?_
    show Steps p.tables e below (T3.setTop (mkF m 42 #[.val (.int p1), .val (.int p2), .val (.int p3), .val (.int p4), .val (.int p5), .val (.int p6), .val (.int ((p1 &&& (15 : Int32)) + (1 : Int32))), .val (.ref b1), .unset, .unset, .unset, .unset, .unset, .unset, .unset, .unset, .unset] [(.int ((p2.toUInt32 >>> ((8 : Int32) &&& 31).toUInt32).toInt32)), (.int (2 : Int32)), (.ref b1)])) _
    refine XS.bipush X3.here hx rfl (hb hby at_42) ?_
    show Steps p.tables e below (T3.setTop (mkF m 44 #[.val (.int p1), .val (.int p2), .val (.int p3), .val (.int p4), .val (.int p5), .val (.int p6), .val (.int ((p1 &&& (15 : Int32)) + (1 : Int32))), .val (.ref b1), .unset, .unset, .unset, .unset, .unset, .unset, .unset, .unset, .unset] [(.int (15 : Int32)), (.int ((p2.toUInt32 >>> ((8 : Int32) &&& 31).toUInt32).toInt32)), (.int (2 : Int32)), (.ref b1)])) _
    refine XS.iand X3.here hx rfl (hb hby at_44) rfl ?_
    show Steps p.tables e below (T3.setTop (mkF m 45 #[.val (.int p1), .val (.int p2), .val (.int p3), .val (.int p4), .val (.int p5), .val (.int p6), .val (.int ((p1 &&& (15 : Int32)) + (1 : Int32))), .val (.ref b1), .unset, .unset, .unset, .unset, .unset, .unset, .unset, .unset, .unset] [(.int (((p2.toUInt32 >>> ((8 : Int32) &&& 31).toUInt32).toInt32) &&& (15 : Int32))), (.int (2 : Int32)), (.ref b1)])) _
    refine XS.iconst X3.here hx rfl (hb hby at_45) ?_
    show Steps p.tables e below (T3.setTop (mkF m 46 #[.val (.int p1), .val (.int p2), .val (.int p3), .val (.int p4), .val (.int p5), .val (.int p6), .val (.int ((p1 &&& (15 : Int32)) + (1 : Int32))), .val (.ref b1), .unset, .unset, .unset, .unset, .unset, .unset, .unset, .unset, .unset] [(.int (3 : Int32)), (.int (((p2.toUInt32 >>> ((8 : Int32) &&& 31).toUInt32).toInt32) &&& (15 : Int32))), (.int (2 : Int32)), (.ref b1)])) _
    refine iremM X3 hx rfl (hb hby at_46) rfl (by decide) ?_
    show Steps p.tables e below (T3.setTop (mkF m 47 #[.val (.int p1), .val (.int p2), .val (.int p3), .val (.int p4), .val (.int p5), .val (.int p6), .val (.int ((p1 &&& (15 : Int32)) + (1 : Int32))), .val (.ref b1), .unset, .unset, .unset, .unset, .unset, .unset, .unset, .unset, .unset] [(.int ((((p2.toUInt32 >>> ((8 : Int32) &&& 31).toUInt32).toInt32) &&& (15 : Int32)) % (3 : Int32))), (.int (2 : Int32)), (.ref b1)])) _
    refine st4 _ ?_
    show Steps p.tables e below (T4.setTop (mkF m 48 #[.val (.int p1), .val (.int p2), .val (.int p3), .val (.int p4), .val (.int p5), .val (.int p6), .val (.int ((p1 &&& (15 : Int32)) + (1 : Int32))), .val (.ref b1), .unset, .unset, .unset, .unset, .unset, .unset, .unset, .unset, .unset] [])) _
    refine XS.aload X4.here hx rfl (hb hby at_48) rfl rfl ?_
    show Steps p.tables e below (T4.setTop (mkF m 50 #[.val (.int p1), .val (.int p2), .val (.int p3), .val (.int p4), .val (.int p5), .val (.int p6), .val (.int ((p1 &&& (15 : Int32)) + (1 : Int32))), .val (.ref b1), .unset, .unset, .unset, .unset, .unset, .unset, .unset, .unset, .unset] [(.ref b1)])) _
    refine XS.iconst X4.here hx rfl (hb hby at_50) ?_
    show Steps p.tables e below (T4.setTop (mkF m 51 #[.val (.int p1), .val (.int p2), .val (.int p3), .val (.int p4), .val (.int p5), .val (.int p6), .val (.int ((p1 &&& (15 : Int32)) + (1 : Int32))), .val (.ref b1), .unset, .unset, .unset, .unset, .unset, .unset, .unset, .unset, .unset] [(.int (3 : Int32)), (.ref b1)])) _
    refine XS.iloadN X4.here hx rfl (hb hby at_51) rfl ?_
    show Steps p.tables e below (T4.setTop (mkF m 52 #[.val (.int p1), .val (.int p2), .val (.int p3), .val (.int p4), .val (.int p5), .val (.int p6), .val (.int ((p1 &&& (15 : Int32)) + (1 : Int32))), .val (.ref b1), .unset, .unset, .unset, .unset, .unset, .unset, .unset, .unset, .unset] [(.int p2), (.int (3 : Int32)), (.ref b1)])) _
    refine XS.bipush X4.here hx rfl (hb hby at_52) ?_
    show Steps p.tables e below (T4.setTop (mkF m 54 #[.val (.int p1), .val (.int p2), .val (.int p3), .val (.int p4), .val (.int p5), .val (.int p6), .val (.int ((p1 &&& (15 : Int32)) + (1 : Int32))), .val (.ref b1), .unset, .unset, .unset, .unset, .unset, .unset, .unset, .unset, .unset] [(.int (12 : Int32)), (.int p2), (.int (3 : Int32)), (.ref b1)])) _
    refine XS.iushr X4.here hx rfl (hb hby at_54) rfl ?_
    show Steps p.tables e below (T4.setTop (mkF m 55 #[.val (.int p1), .val (.int p2), .val (.int p3), .val (.int p4), .val (.int p5), .val (.int p6), .val (.int ((p1 &&& (15 : Int32)) + (1 : Int32))), .val (.ref b1), .unset, .unset, .unset, .unset, .unset, .unset, .unset, .unset, .unset] [(.int ((p2.toUInt32 >>> ((12 : Int32) &&& 31).toUInt32).toInt32)), (.int (3 : Int32)), (.ref b1)])) _
    refine XS.bipush X4.here hx rfl (hb hby at_55) ?_
    show Steps p.tables e below (T4.setTop (mkF m 57 #[.val (.int p1), .val (.int p2), .val (.int p3), .val (.int p4), .val (.int p5), .val (.int p6), .val (.int ((p1 &&& (15 : Int32)) + (1 : Int32))), .val (.ref b1), .unset, .unset, .unset, .unset, .unset, .unset, .unset, .unset, .unset] [(.int (15 : Int32)), (.int ((p2.toUInt32 >>> ((12 : Int32) &&& 31).toUInt32).toInt32)), (.int (3 : Int32)), (.ref b1)])) _
    refine XS.iand X4.here hx rfl (hb hby at_57) rfl ?_
    show Steps p.tables e below (T4.setTop (mkF m 58 #[.val (.int p1), .val (.int p2), .val (.int p3), .val (.int p4), .val (.int p5), .val (.int p6), .val (.int ((p1 &&& (15 : Int32)) + (1 : Int32))), .val (.ref b1), .unset, .unset, .unset, .unset, .unset, .unset, .unset, .unset, .unset] [(.int (((p2.toUInt32 >>> ((12 : Int32) &&& 31).toUInt32).toInt32) &&& (15 : Int32))), (.int (3 : Int32)), (.ref b1)])) _
    refine XS.iconst X4.here hx rfl (hb hby at_58) ?_
    show Steps p.tables e below (T4.setTop (mkF m 59 #[.val (.int p1), .val (.int p2), .val (.int p3), .val (.int p4), .val (.int p5), .val (.int p6), .val (.int ((p1 &&& (15 : Int32)) + (1 : Int32))), .val (.ref b1), .unset, .unset, .unset, .unset, .unset, .unset, .unset, .unset, .unset] [(.int (3 : Int32)), (.int (((p2.toUInt32 >>> ((12 : Int32) &&& 31).toUInt32).toInt32) &&& (15 : Int32))), (.int (3 : Int32)), (.ref b1)])) _
    refine iremM X4 hx rfl (hb hby at_59) rfl (by decide) ?_
    show Steps p.tables e below (T4.setTop (mkF m 60 #[.val (.int p1), .val (.int p2), .val (.int p3), .val (.int p4), .val (.int p5), .val (.int p6), .val (.int ((p1 &&& (15 : Int32)) + (1 : Int32))), .val (.ref b1), .unset, .unset, .unset, .unset, .unset, .unset, .unset, .unset, .unset] [(.int ((((p2.toUInt32 >>> ((12 : Int32) &&& 31).toUInt32).toInt32) &&& (15 : Int32)) % (3 : Int32))), (.int (3 : Int32)), (.ref b1)])) _
    refine st5 _ ?_
    show Steps p.tables e below (T5.setTop (mkF m 61 #[.val (.int p1), .val (.int p2), .val (.int p3), .val (.int p4), .val (.int p5), .val (.int p6), .val (.int ((p1 &&& (15 : Int32)) + (1 : Int32))), .val (.ref b1), .unset, .unset, .unset, .unset, .unset, .unset, .unset, .unset, .unset] [])) _
    refine XS.iconst X5.here hx rfl (hb hby at_61) ?_
    show Steps p.tables e below (T5.setTop (mkF m 62 #[.val (.int p1), .val (.int p2), .val (.int p3), .val (.int p4), .val (.int p5), .val (.int p6), .val (.int ((p1 &&& (15 : Int32)) + (1 : Int32))), .val (.ref b1), .unset, .unset, .unset, .unset, .unset, .unset, .unset, .unset, .unset] [(.int (4 : Int32))])) _
    refine st6 _ ?_
    show Steps p.tables e below (T6.setTop (mkF m 64 #[.val (.int p1), .val (.int p2), .val (.int p3), .val (.int p4), .val (.int p5), .val (.int p6), .val (.int ((p1 &&& (15 : Int32)) + (1 : Int32))), .val (.ref b1), .unset, .unset, .unset, .unset, .unset, .unset, .unset, .unset, .unset] [(.ref b6)])) _
    refine XS.astore X6.here hx rfl (hb hby at_64) rfl rfl (l' := #[.val (.int p1), .val (.int p2), .val (.int p3), .val (.int p4), .val (.int p5), .val (.int p6), .val (.int ((p1 &&& (15 : Int32)) + (1 : Int32))), .val (.ref b1), .val (.ref b6), .unset, .unset, .unset, .unset, .unset, .unset, .unset, .unset]) rfl ?_
    show Steps p.tables e below (T6.setTop (mkF m 66 #[.val (.int p1), .val (.int p2), .val (.int p3), .val (.int p4), .val (.int p5), .val (.int p6), .val (.int ((p1 &&& (15 : Int32)) + (1 : Int32))), .val (.ref b1), .val (.ref b6), .unset, .unset, .unset, .unset, .unset, .unset, .unset, .unset] [])) _
    refine XS.aload X6.here hx rfl (hb hby at_66) rfl rfl ?_
    show Steps p.tables e below (T6.setTop (mkF m 68 #[.val (.int p1), .val (.int p2), .val (.int p3), .val (.int p4), .val (.int p5), .val (.int p6), .val (.int ((p1 &&& (15 : Int32)) + (1 : Int32))), .val (.ref b1), .val (.ref b6), .unset, .unset, .unset, .unset, .unset, .unset, .unset, .unset] [(.ref b6)])) _
    refine XS.iconst X6.here hx rfl (hb hby at_68) ?_
    show Steps p.tables e below (T6.setTop (mkF m 69 #[.val (.int p1), .val (.int p2), .val (.int p3), .val (.int p4), .val (.int p5), .val (.int p6), .val (.int ((p1 &&& (15 : Int32)) + (1 : Int32))), .val (.ref b1), .val (.ref b6), .unset, .unset, .unset, .unset, .unset, .unset, .unset, .unset] [(.int (0 : Int32)), (.ref b6)])) _
    refine XS.iloadN X6.here hx rfl (hb hby at_69) rfl ?_
    show Steps p.tables e below (T6.setTop (mkF m 70 #[.val (.int p1), .val (.int p2), .val (.int p3), .val (.int p4), .val (.int p5), .val (.int p6), .val (.int ((p1 &&& (15 : Int32)) + (1 : Int32))), .val (.ref b1), .val (.ref b6), .unset, .unset, .unset, .unset, .unset, .unset, .unset, .unset] [(.int p3), (.int (0 : Int32)), (.ref b6)])) _
    refine X6.ldcInt hx hown (mvT hZ (hw _ (List.mem_of_getElem? (i := 1) rfl))) (g := (mkF m 70 #[.val (.int p1), .val (.int p2), .val (.int p3), .val (.int p4), .val (.int p5), .val (.int p6), .val (.int ((p1 &&& (15 : Int32)) + (1 : Int32))), .val (.ref b1), .val (.ref b6), .unset, .unset, .unset, .unset, .unset, .unset, .unset, .unset] [(.int p3), (.int (0 : Int32)), (.ref b6)])) rfl (hb hby at_70) _ ?_
    show Steps p.tables e below (T6.setTop (mkF m 72 #[.val (.int p1), .val (.int p2), .val (.int p3), .val (.int p4), .val (.int p5), .val (.int p6), .val (.int ((p1 &&& (15 : Int32)) + (1 : Int32))), .val (.ref b1), .val (.ref b6), .unset, .unset, .unset, .unset, .unset, .unset, .unset, .unset] [(.int (2147483647 : Int32)), (.int p3), (.int (0 : Int32)), (.ref b6)])) _
    refine XS.iand X6.here hx rfl (hb hby at_72) rfl ?_
    show Steps p.tables e below (T6.setTop (mkF m 73 #[.val (.int p1), .val (.int p2), .val (.int p3), .val (.int p4), .val (.int p5), .val (.int p6), .val (.int ((p1 &&& (15 : Int32)) + (1 : Int32))), .val (.ref b1), .val (.ref b6), .unset, .unset, .unset, .unset, .unset, .unset, .unset, .unset] [(.int (p3 &&& (2147483647 : Int32))), (.int (0 : Int32)), (.ref b6)])) _
    refine XS.iload X6.here hx rfl (hb hby at_73) rfl ?_
    show Steps p.tables e below (T6.setTop (mkF m 75 #[.val (.int p1), .val (.int p2), .val (.int p3), .val (.int p4), .val (.int p5), .val (.int p6), .val (.int ((p1 &&& (15 : Int32)) + (1 : Int32))), .val (.ref b1), .val (.ref b6), .unset, .unset, .unset, .unset, .unset, .unset, .unset, .unset] [(.int ((p1 &&& (15 : Int32)) + (1 : Int32))), (.int (p3 &&& (2147483647 : Int32))), (.int (0 : Int32)), (.ref b6)])) _
    refine iremM X6 hx rfl (hb hby at_75) rfl (own_spnz p1) ?_
    show Steps p.tables e below (T6.setTop (mkF m 76 #[.val (.int p1), .val (.int p2), .val (.int p3), .val (.int p4), .val (.int p5), .val (.int p6), .val (.int ((p1 &&& (15 : Int32)) + (1 : Int32))), .val (.ref b1), .val (.ref b6), .unset, .unset, .unset, .unset, .unset, .unset, .unset, .unset] [(.int ((p3 &&& (2147483647 : Int32)) % ((p1 &&& (15 : Int32)) + (1 : Int32)))), (.int (0 : Int32)), (.ref b6)])) _
    refine st8 _ ?_
    show Steps p.tables e below (T8.setTop (mkF m 77 #[.val (.int p1), .val (.int p2), .val (.int p3), .val (.int p4), .val (.int p5), .val (.int p6), .val (.int ((p1 &&& (15 : Int32)) + (1 : Int32))), .val (.ref b1), .val (.ref b6), .unset, .unset, .unset, .unset, .unset, .unset, .unset, .unset] [])) _
    refine XS.aload X8.here hx rfl (hb hby at_77) rfl rfl ?_
    show Steps p.tables e below (T8.setTop (mkF m 79 #[.val (.int p1), .val (.int p2), .val (.int p3), .val (.int p4), .val (.int p5), .val (.int p6), .val (.int ((p1 &&& (15 : Int32)) + (1 : Int32))), .val (.ref b1), .val (.ref b6), .unset, .unset, .unset, .unset, .unset, .unset, .unset, .unset] [(.ref b6)])) _
    refine XS.iconst X8.here hx rfl (hb hby at_79) ?_
    show Steps p.tables e below (T8.setTop (mkF m 80 #[.val (.int p1), .val (.int p2), .val (.int p3), .val (.int p4), .val (.int p5), .val (.int p6), .val (.int ((p1 &&& (15 : Int32)) + (1 : Int32))), .val (.ref b1), .val (.ref b6), .unset, .unset, .unset, .unset, .unset, .unset, .unset, .unset] [(.int (1 : Int32)), (.ref b6)])) _
    refine XS.iloadN X8.here hx rfl (hb hby at_80) rfl ?_
    show Steps p.tables e below (T8.setTop (mkF m 81 #[.val (.int p1), .val (.int p2), .val (.int p3), .val (.int p4), .val (.int p5), .val (.int p6), .val (.int ((p1 &&& (15 : Int32)) + (1 : Int32))), .val (.ref b1), .val (.ref b6), .unset, .unset, .unset, .unset, .unset, .unset, .unset, .unset] [(.int p4), (.int (1 : Int32)), (.ref b6)])) _
    refine X8.ldcInt hx hown (mvT hZ (hw _ (List.mem_of_getElem? (i := 1) rfl))) (g := (mkF m 81 #[.val (.int p1), .val (.int p2), .val (.int p3), .val (.int p4), .val (.int p5), .val (.int p6), .val (.int ((p1 &&& (15 : Int32)) + (1 : Int32))), .val (.ref b1), .val (.ref b6), .unset, .unset, .unset, .unset, .unset, .unset, .unset, .unset] [(.int p4), (.int (1 : Int32)), (.ref b6)])) rfl (hb hby at_81) _ ?_
    show Steps p.tables e below (T8.setTop (mkF m 83 #[.val (.int p1), .val (.int p2), .val (.int p3), .val (.int p4), .val (.int p5), .val (.int p6), .val (.int ((p1 &&& (15 : Int32)) + (1 : Int32))), .val (.ref b1), .val (.ref b6), .unset, .unset, .unset, .unset, .unset, .unset, .unset, .unset] [(.int (2147483647 : Int32)), (.int p4), (.int (1 : Int32)), (.ref b6)])) _
    refine XS.iand X8.here hx rfl (hb hby at_83) rfl ?_
    show Steps p.tables e below (T8.setTop (mkF m 84 #[.val (.int p1), .val (.int p2), .val (.int p3), .val (.int p4), .val (.int p5), .val (.int p6), .val (.int ((p1 &&& (15 : Int32)) + (1 : Int32))), .val (.ref b1), .val (.ref b6), .unset, .unset, .unset, .unset, .unset, .unset, .unset, .unset] [(.int (p4 &&& (2147483647 : Int32))), (.int (1 : Int32)), (.ref b6)])) _
    refine XS.iload X8.here hx rfl (hb hby at_84) rfl ?_
    show Steps p.tables e below (T8.setTop (mkF m 86 #[.val (.int p1), .val (.int p2), .val (.int p3), .val (.int p4), .val (.int p5), .val (.int p6), .val (.int ((p1 &&& (15 : Int32)) + (1 : Int32))), .val (.ref b1), .val (.ref b6), .unset, .unset, .unset, .unset, .unset, .unset, .unset, .unset] [(.int ((p1 &&& (15 : Int32)) + (1 : Int32))), (.int (p4 &&& (2147483647 : Int32))), (.int (1 : Int32)), (.ref b6)])) _
    refine iremM X8 hx rfl (hb hby at_86) rfl (own_spnz p1) ?_
    show Steps p.tables e below (T8.setTop (mkF m 87 #[.val (.int p1), .val (.int p2), .val (.int p3), .val (.int p4), .val (.int p5), .val (.int p6), .val (.int ((p1 &&& (15 : Int32)) + (1 : Int32))), .val (.ref b1), .val (.ref b6), .unset, .unset, .unset, .unset, .unset, .unset, .unset, .unset] [(.int ((p4 &&& (2147483647 : Int32)) % ((p1 &&& (15 : Int32)) + (1 : Int32)))), (.int (1 : Int32)), (.ref b6)])) _
    refine st9 _ ?_
    show Steps p.tables e below (T9.setTop (mkF m 88 #[.val (.int p1), .val (.int p2), .val (.int p3), .val (.int p4), .val (.int p5), .val (.int p6), .val (.int ((p1 &&& (15 : Int32)) + (1 : Int32))), .val (.ref b1), .val (.ref b6), .unset, .unset, .unset, .unset, .unset, .unset, .unset, .unset] [])) _
    refine XS.aload X9.here hx rfl (hb hby at_88) rfl rfl ?_
    show Steps p.tables e below (T9.setTop (mkF m 90 #[.val (.int p1), .val (.int p2), .val (.int p3), .val (.int p4), .val (.int p5), .val (.int p6), .val (.int ((p1 &&& (15 : Int32)) + (1 : Int32))), .val (.ref b1), .val (.ref b6), .unset, .unset, .unset, .unset, .unset, .unset, .unset, .unset] [(.ref b6)])) _
    refine XS.iconst X9.here hx rfl (hb hby at_90) ?_
    show Steps p.tables e below (T9.setTop (mkF m 91 #[.val (.int p1), .val (.int p2), .val (.int p3), .val (.int p4), .val (.int p5), .val (.int p6), .val (.int ((p1 &&& (15 : Int32)) + (1 : Int32))), .val (.ref b1), .val (.ref b6), .unset, .unset, .unset, .unset, .unset, .unset, .unset, .unset] [(.int (2 : Int32)), (.ref b6)])) _
    refine XS.iload X9.here hx rfl (hb hby at_91) rfl ?_
    show Steps p.tables e below (T9.setTop (mkF m 93 #[.val (.int p1), .val (.int p2), .val (.int p3), .val (.int p4), .val (.int p5), .val (.int p6), .val (.int ((p1 &&& (15 : Int32)) + (1 : Int32))), .val (.ref b1), .val (.ref b6), .unset, .unset, .unset, .unset, .unset, .unset, .unset, .unset] [(.int p5), (.int (2 : Int32)), (.ref b6)])) _
    refine X9.ldcInt hx hown (mvT hZ (hw _ (List.mem_of_getElem? (i := 1) rfl))) (g := (mkF m 93 #[.val (.int p1), .val (.int p2), .val (.int p3), .val (.int p4), .val (.int p5), .val (.int p6), .val (.int ((p1 &&& (15 : Int32)) + (1 : Int32))), .val (.ref b1), .val (.ref b6), .unset, .unset, .unset, .unset, .unset, .unset, .unset, .unset] [(.int p5), (.int (2 : Int32)), (.ref b6)])) rfl (hb hby at_93) _ ?_
    show Steps p.tables e below (T9.setTop (mkF m 95 #[.val (.int p1), .val (.int p2), .val (.int p3), .val (.int p4), .val (.int p5), .val (.int p6), .val (.int ((p1 &&& (15 : Int32)) + (1 : Int32))), .val (.ref b1), .val (.ref b6), .unset, .unset, .unset, .unset, .unset, .unset, .unset, .unset] [(.int (2147483647 : Int32)), (.int p5), (.int (2 : Int32)), (.ref b6)])) _
    refine XS.iand X9.here hx rfl (hb hby at_95) rfl ?_
    show Steps p.tables e below (T9.setTop (mkF m 96 #[.val (.int p1), .val (.int p2), .val (.int p3), .val (.int p4), .val (.int p5), .val (.int p6), .val (.int ((p1 &&& (15 : Int32)) + (1 : Int32))), .val (.ref b1), .val (.ref b6), .unset, .unset, .unset, .unset, .unset, .unset, .unset, .unset] [(.int (p5 &&& (2147483647 : Int32))), (.int (2 : Int32)), (.ref b6)])) _
    refine XS.iload X9.here hx rfl (hb hby at_96) rfl ?_
    show Steps p.tables e below (T9.setTop (mkF m 98 #[.val (.int p1), .val (.int p2), .val (.int p3), .val (.int p4), .val (.int p5), .val (.int p6), .val (.int ((p1 &&& (15 : Int32)) + (1 : Int32))), .val (.ref b1), .val (.ref b6), .unset, .unset, .unset, .unset, .unset, .unset, .unset, .unset] [(.int ((p1 &&& (15 : Int32)) + (1 : Int32))), (.int (p5 &&& (2147483647 : Int32))), (.int (2 : Int32)), (.ref b6)])) _
    refine iremM X9 hx rfl (hb hby at_98) rfl (own_spnz p1) ?_
    show Steps p.tables e below (T9.setTop (mkF m 99 #[.val (.int p1), .val (.int p2), .val (.int p3), .val (.int p4), .val (.int p5), .val (.int p6), .val (.int ((p1 &&& (15 : Int32)) + (1 : Int32))), .val (.ref b1), .val (.ref b6), .unset, .unset, .unset, .unset, .unset, .unset, .unset, .unset] [(.int ((p5 &&& (2147483647 : Int32)) % ((p1 &&& (15 : Int32)) + (1 : Int32)))), (.int (2 : Int32)), (.ref b6)])) _
    refine st10 _ ?_
    show Steps p.tables e below (T10.setTop (mkF m 100 #[.val (.int p1), .val (.int p2), .val (.int p3), .val (.int p4), .val (.int p5), .val (.int p6), .val (.int ((p1 &&& (15 : Int32)) + (1 : Int32))), .val (.ref b1), .val (.ref b6), .unset, .unset, .unset, .unset, .unset, .unset, .unset, .unset] [])) _
    refine XS.aload X10.here hx rfl (hb hby at_100) rfl rfl ?_
    show Steps p.tables e below (T10.setTop (mkF m 102 #[.val (.int p1), .val (.int p2), .val (.int p3), .val (.int p4), .val (.int p5), .val (.int p6), .val (.int ((p1 &&& (15 : Int32)) + (1 : Int32))), .val (.ref b1), .val (.ref b6), .unset, .unset, .unset, .unset, .unset, .unset, .unset, .unset] [(.ref b6)])) _
    refine XS.iconst X10.here hx rfl (hb hby at_102) ?_
    show Steps p.tables e below (T10.setTop (mkF m 103 #[.val (.int p1), .val (.int p2), .val (.int p3), .val (.int p4), .val (.int p5), .val (.int p6), .val (.int ((p1 &&& (15 : Int32)) + (1 : Int32))), .val (.ref b1), .val (.ref b6), .unset, .unset, .unset, .unset, .unset, .unset, .unset, .unset] [(.int (3 : Int32)), (.ref b6)])) _
    refine XS.iload X10.here hx rfl (hb hby at_103) rfl ?_
    show Steps p.tables e below (T10.setTop (mkF m 105 #[.val (.int p1), .val (.int p2), .val (.int p3), .val (.int p4), .val (.int p5), .val (.int p6), .val (.int ((p1 &&& (15 : Int32)) + (1 : Int32))), .val (.ref b1), .val (.ref b6), .unset, .unset, .unset, .unset, .unset, .unset, .unset, .unset] [(.int p6), (.int (3 : Int32)), (.ref b6)])) _
    refine X10.ldcInt hx hown (mvT hZ (hw _ (List.mem_of_getElem? (i := 1) rfl))) (g := (mkF m 105 #[.val (.int p1), .val (.int p2), .val (.int p3), .val (.int p4), .val (.int p5), .val (.int p6), .val (.int ((p1 &&& (15 : Int32)) + (1 : Int32))), .val (.ref b1), .val (.ref b6), .unset, .unset, .unset, .unset, .unset, .unset, .unset, .unset] [(.int p6), (.int (3 : Int32)), (.ref b6)])) rfl (hb hby at_105) _ ?_
    show Steps p.tables e below (T10.setTop (mkF m 107 #[.val (.int p1), .val (.int p2), .val (.int p3), .val (.int p4), .val (.int p5), .val (.int p6), .val (.int ((p1 &&& (15 : Int32)) + (1 : Int32))), .val (.ref b1), .val (.ref b6), .unset, .unset, .unset, .unset, .unset, .unset, .unset, .unset] [(.int (2147483647 : Int32)), (.int p6), (.int (3 : Int32)), (.ref b6)])) _
    refine XS.iand X10.here hx rfl (hb hby at_107) rfl ?_
    show Steps p.tables e below (T10.setTop (mkF m 108 #[.val (.int p1), .val (.int p2), .val (.int p3), .val (.int p4), .val (.int p5), .val (.int p6), .val (.int ((p1 &&& (15 : Int32)) + (1 : Int32))), .val (.ref b1), .val (.ref b6), .unset, .unset, .unset, .unset, .unset, .unset, .unset, .unset] [(.int (p6 &&& (2147483647 : Int32))), (.int (3 : Int32)), (.ref b6)])) _
    refine XS.iload X10.here hx rfl (hb hby at_108) rfl ?_
    show Steps p.tables e below (T10.setTop (mkF m 110 #[.val (.int p1), .val (.int p2), .val (.int p3), .val (.int p4), .val (.int p5), .val (.int p6), .val (.int ((p1 &&& (15 : Int32)) + (1 : Int32))), .val (.ref b1), .val (.ref b6), .unset, .unset, .unset, .unset, .unset, .unset, .unset, .unset] [(.int ((p1 &&& (15 : Int32)) + (1 : Int32))), (.int (p6 &&& (2147483647 : Int32))), (.int (3 : Int32)), (.ref b6)])) _
    refine iremM X10 hx rfl (hb hby at_110) rfl (own_spnz p1) ?_
    show Steps p.tables e below (T10.setTop (mkF m 111 #[.val (.int p1), .val (.int p2), .val (.int p3), .val (.int p4), .val (.int p5), .val (.int p6), .val (.int ((p1 &&& (15 : Int32)) + (1 : Int32))), .val (.ref b1), .val (.ref b6), .unset, .unset, .unset, .unset, .unset, .unset, .unset, .unset] [(.int ((p6 &&& (2147483647 : Int32)) % ((p1 &&& (15 : Int32)) + (1 : Int32)))), (.int (3 : Int32)), (.ref b6)])) _
    refine st11 _ ?_
    show Steps p.tables e below (T11.setTop (mkF m 112 #[.val (.int p1), .val (.int p2), .val (.int p3), .val (.int p4), .val (.int p5), .val (.int p6), .val (.int ((p1 &&& (15 : Int32)) + (1 : Int32))), .val (.ref b1), .val (.ref b6), .unset, .unset, .unset, .unset, .unset, .unset, .unset, .unset] [])) _
    refine XS.iconst X11.here hx rfl (hb hby at_112) ?_
    show Steps p.tables e below (T11.setTop (mkF m 113 #[.val (.int p1), .val (.int p2), .val (.int p3), .val (.int p4), .val (.int p5), .val (.int p6), .val (.int ((p1 &&& (15 : Int32)) + (1 : Int32))), .val (.ref b1), .val (.ref b6), .unset, .unset, .unset, .unset, .unset, .unset, .unset, .unset] [(.int (3 : Int32))])) _
    refine st12 _ ?_
    show Steps p.tables e below (T12.setTop (mkF m 115 #[.val (.int p1), .val (.int p2), .val (.int p3), .val (.int p4), .val (.int p5), .val (.int p6), .val (.int ((p1 &&& (15 : Int32)) + (1 : Int32))), .val (.ref b1), .val (.ref b6), .unset, .unset, .unset, .unset, .unset, .unset, .unset, .unset] [(.ref b12)])) _
    refine XS.astore X12.here hx rfl (hb hby at_115) rfl rfl (l' := #[.val (.int p1), .val (.int p2), .val (.int p3), .val (.int p4), .val (.int p5), .val (.int p6), .val (.int ((p1 &&& (15 : Int32)) + (1 : Int32))), .val (.ref b1), .val (.ref b6), .val (.ref b12), .unset, .unset, .unset, .unset, .unset, .unset, .unset]) rfl ?_
    show Steps p.tables e below (T12.setTop (mkF m 117 #[.val (.int p1), .val (.int p2), .val (.int p3), .val (.int p4), .val (.int p5), .val (.int p6), .val (.int ((p1 &&& (15 : Int32)) + (1 : Int32))), .val (.ref b1), .val (.ref b6), .val (.ref b12), .unset, .unset, .unset, .unset, .unset, .unset, .unset] [])) _
    refine XS.aload X12.here hx rfl (hb hby at_117) rfl rfl ?_
    show Steps p.tables e below (T12.setTop (mkF m 119 #[.val (.int p1), .val (.int p2), .val (.int p3), .val (.int p4), .val (.int p5), .val (.int p6), .val (.int ((p1 &&& (15 : Int32)) + (1 : Int32))), .val (.ref b1), .val (.ref b6), .val (.ref b12), .unset, .unset, .unset, .unset, .unset, .unset, .unset] [(.ref b12)])) _
    refine XS.iconst X12.here hx rfl (hb hby at_119) ?_
    show Steps p.tables e below (T12.setTop (mkF m 120 #[.val (.int p1), .val (.int p2), .val (.int p3), .val (.int p4), .val (.int p5), .val (.int p6), .val (.int ((p1 &&& (15 : Int32)) + (1 : Int32))), .val (.ref b1), .val (.ref b6), .val (.ref b12), .unset, .unset, .unset, .unset, .unset, .unset, .unset] [(.int (0 : Int32)), (.ref b12)])) _
    refine XS.iconst X12.here hx rfl (hb hby at_120) ?_
    show Steps p.tables e below (T12.setTop (mkF m 121 #[.val (.int p1), .val (.int p2), .val (.int p3), .val (.int p4), .val (.int p5), .val (.int p6), .val (.int ((p1 &&& (15 : Int32)) + (1 : Int32))), .val (.ref b1), .val (.ref b6), .val (.ref b12), .unset, .unset, .unset, .unset, .unset, .unset, .unset] [(.int (-1 : Int32)), (.int (0 : Int32)), (.ref b12)])) _
    refine st16 _ ?_
    show Steps p.tables e below (T16.setTop (mkF m 122 #[.val (.int p1), .val (.int p2), .val (.int p3), .val (.int p4), .val (.int p5), .val (.int p6), .val (.int ((p1 &&& (15 : Int32)) + (1 : Int32))), .val (.ref b1), .val (.ref b6), .val (.ref b12), .unset, .unset, .unset, .unset, .unset, .unset, .unset] [])) _
    refine XS.aload X16.here hx rfl (hb hby at_122) rfl rfl ?_
    show Steps p.tables e below (T16.setTop (mkF m 124 #[.val (.int p1), .val (.int p2), .val (.int p3), .val (.int p4), .val (.int p5), .val (.int p6), .val (.int ((p1 &&& (15 : Int32)) + (1 : Int32))), .val (.ref b1), .val (.ref b6), .val (.ref b12), .unset, .unset, .unset, .unset, .unset, .unset, .unset] [(.ref b12)])) _
    refine XS.iconst X16.here hx rfl (hb hby at_124) ?_
    show Steps p.tables e below (T16.setTop (mkF m 125 #[.val (.int p1), .val (.int p2), .val (.int p3), .val (.int p4), .val (.int p5), .val (.int p6), .val (.int ((p1 &&& (15 : Int32)) + (1 : Int32))), .val (.ref b1), .val (.ref b6), .val (.ref b12), .unset, .unset, .unset, .unset, .unset, .unset, .unset] [(.int (1 : Int32)), (.ref b12)])) _
    refine XS.iconst X16.here hx rfl (hb hby at_125) ?_
    show Steps p.tables e below (T16.setTop (mkF m 126 #[.val (.int p1), .val (.int p2), .val (.int p3), .val (.int p4), .val (.int p5), .val (.int p6), .val (.int ((p1 &&& (15 : Int32)) + (1 : Int32))), .val (.ref b1), .val (.ref b6), .val (.ref b12), .unset, .unset, .unset, .unset, .unset, .unset, .unset] [(.int (-1 : Int32)), (.int (1 : Int32)), (.ref b12)])) _
    refine st17 _ ?_
    show Steps p.tables e below (T17.setTop (mkF m 127 #[.val (.int p1), .val (.int p2), .val (.int p3), .val (.int p4), .val (.int p5), .val (.int p6), .val (.int ((p1 &&& (15 : Int32)) + (1 : Int32))), .val (.ref b1), .val (.ref b6), .val (.ref b12), .unset, .unset, .unset, .unset, .unset, .unset, .unset] [])) _
    refine XS.aload X17.here hx rfl (hb hby at_127) rfl rfl ?_
    show Steps p.tables e below (T17.setTop (mkF m 129 #[.val (.int p1), .val (.int p2), .val (.int p3), .val (.int p4), .val (.int p5), .val (.int p6), .val (.int ((p1 &&& (15 : Int32)) + (1 : Int32))), .val (.ref b1), .val (.ref b6), .val (.ref b12), .unset, .unset, .unset, .unset, .unset, .unset, .unset] [(.ref b12)])) _
    refine XS.iconst X17.here hx rfl (hb hby at_129) ?_
    show Steps p.tables e below (T17.setTop (mkF m 130 #[.val (.int p1), .val (.int p2), .val (.int p3), .val (.int p4), .val (.int p5), .val (.int p6), .val (.int ((p1 &&& (15 : Int32)) + (1 : Int32))), .val (.ref b1), .val (.ref b6), .val (.ref b12), .unset, .unset, .unset, .unset, .unset, .unset, .unset] [(.int (2 : Int32)), (.ref b12)])) _
    refine XS.iconst X17.here hx rfl (hb hby at_130) ?_
    show Steps p.tables e below (T17.setTop (mkF m 131 #[.val (.int p1), .val (.int p2), .val (.int p3), .val (.int p4), .val (.int p5), .val (.int p6), .val (.int ((p1 &&& (15 : Int32)) + (1 : Int32))), .val (.ref b1), .val (.ref b6), .val (.ref b12), .unset, .unset, .unset, .unset, .unset, .unset, .unset] [(.int (-1 : Int32)), (.int (2 : Int32)), (.ref b12)])) _
    refine st18 _ ?_
    show Steps p.tables e below (T18.setTop (mkF m 132 #[.val (.int p1), .val (.int p2), .val (.int p3), .val (.int p4), .val (.int p5), .val (.int p6), .val (.int ((p1 &&& (15 : Int32)) + (1 : Int32))), .val (.ref b1), .val (.ref b6), .val (.ref b12), .unset, .unset, .unset, .unset, .unset, .unset, .unset] [])) _
    refine XS.aload X18.here hx rfl (hb hby at_132) rfl rfl ?_
    show Steps p.tables e below (T18.setTop (mkF m 134 #[.val (.int p1), .val (.int p2), .val (.int p3), .val (.int p4), .val (.int p5), .val (.int p6), .val (.int ((p1 &&& (15 : Int32)) + (1 : Int32))), .val (.ref b1), .val (.ref b6), .val (.ref b12), .unset, .unset, .unset, .unset, .unset, .unset, .unset] [(.ref b12)])) _
    refine XS.aload X18.here hx rfl (hb hby at_134) rfl rfl ?_
    show Steps p.tables e below (T18.setTop (mkF m 136 #[.val (.int p1), .val (.int p2), .val (.int p3), .val (.int p4), .val (.int p5), .val (.int p6), .val (.int ((p1 &&& (15 : Int32)) + (1 : Int32))), .val (.ref b1), .val (.ref b6), .val (.ref b12), .unset, .unset, .unset, .unset, .unset, .unset, .unset] [(.ref b1), (.ref b12)])) _
    refine XS.iconst X18.here hx rfl (hb hby at_136) ?_
    show Steps p.tables e below (T18.setTop (mkF m 137 #[.val (.int p1), .val (.int p2), .val (.int p3), .val (.int p4), .val (.int p5), .val (.int p6), .val (.int ((p1 &&& (15 : Int32)) + (1 : Int32))), .val (.ref b1), .val (.ref b6), .val (.ref b12), .unset, .unset, .unset, .unset, .unset, .unset, .unset] [(.int (0 : Int32)), (.ref b1), (.ref b12)])) _
    refine X18.iaload hx (j := (0 : Int32)) (v := (.int ((p2 &&& (15 : Int32)) % (3 : Int32)))) (by rw [e18]; exact A19.1) (State.isArrayOf_alike hZ.alike A19.2.1) A19.2.2 hin19 hat19 (g := (mkF m 137 #[.val (.int p1), .val (.int p2), .val (.int p3), .val (.int p4), .val (.int p5), .val (.int p6), .val (.int ((p1 &&& (15 : Int32)) + (1 : Int32))), .val (.ref b1), .val (.ref b6), .val (.ref b12), .unset, .unset, .unset, .unset, .unset, .unset, .unset] [(.int (0 : Int32)), (.ref b1), (.ref b12)])) rfl rfl (hb hby at_137) _ ?_
    show Steps p.tables e below (T18.setTop (mkF m 138 #[.val (.int p1), .val (.int p2), .val (.int p3), .val (.int p4), .val (.int p5), .val (.int p6), .val (.int ((p1 &&& (15 : Int32)) + (1 : Int32))), .val (.ref b1), .val (.ref b6), .val (.ref b12), .unset, .unset, .unset, .unset, .unset, .unset, .unset] [(.int ((p2 &&& (15 : Int32)) % (3 : Int32))), (.ref b12)])) _
    refine XS.aload X18.here hx rfl (hb hby at_138) rfl rfl ?_
    show Steps p.tables e below (T18.setTop (mkF m 140 #[.val (.int p1), .val (.int p2), .val (.int p3), .val (.int p4), .val (.int p5), .val (.int p6), .val (.int ((p1 &&& (15 : Int32)) + (1 : Int32))), .val (.ref b1), .val (.ref b6), .val (.ref b12), .unset, .unset, .unset, .unset, .unset, .unset, .unset] [(.ref b6), (.int ((p2 &&& (15 : Int32)) % (3 : Int32))), (.ref b12)])) _
    refine XS.iconst X18.here hx rfl (hb hby at_140) ?_
    show Steps p.tables e below (T18.setTop (mkF m 141 #[.val (.int p1), .val (.int p2), .val (.int p3), .val (.int p4), .val (.int p5), .val (.int p6), .val (.int ((p1 &&& (15 : Int32)) + (1 : Int32))), .val (.ref b1), .val (.ref b6), .val (.ref b12), .unset, .unset, .unset, .unset, .unset, .unset, .unset] [(.int (0 : Int32)), (.ref b6), (.int ((p2 &&& (15 : Int32)) % (3 : Int32))), (.ref b12)])) _
    refine X18.iaload hx (j := (0 : Int32)) (v := (.int ((p3 &&& (2147483647 : Int32)) % ((p1 &&& (15 : Int32)) + (1 : Int32))))) (by rw [e18]; exact A21.1) (State.isArrayOf_alike hZ.alike A21.2.1) A21.2.2 hin21 hat21 (g := (mkF m 141 #[.val (.int p1), .val (.int p2), .val (.int p3), .val (.int p4), .val (.int p5), .val (.int p6), .val (.int ((p1 &&& (15 : Int32)) + (1 : Int32))), .val (.ref b1), .val (.ref b6), .val (.ref b12), .unset, .unset, .unset, .unset, .unset, .unset, .unset] [(.int (0 : Int32)), (.ref b6), (.int ((p2 &&& (15 : Int32)) % (3 : Int32))), (.ref b12)])) rfl rfl (hb hby at_141) _ ?_
    show Steps p.tables e below (T18.setTop (mkF m 142 #[.val (.int p1), .val (.int p2), .val (.int p3), .val (.int p4), .val (.int p5), .val (.int p6), .val (.int ((p1 &&& (15 : Int32)) + (1 : Int32))), .val (.ref b1), .val (.ref b6), .val (.ref b12), .unset, .unset, .unset, .unset, .unset, .unset, .unset] [(.int ((p3 &&& (2147483647 : Int32)) % ((p1 &&& (15 : Int32)) + (1 : Int32)))), (.int ((p2 &&& (15 : Int32)) % (3 : Int32))), (.ref b12)])) _
    refine st23 _ ?_
    show Steps p.tables e below (T23.setTop (mkF m 145 #[.val (.int p1), .val (.int p2), .val (.int p3), .val (.int p4), .val (.int p5), .val (.int p6), .val (.int ((p1 &&& (15 : Int32)) + (1 : Int32))), .val (.ref b1), .val (.ref b6), .val (.ref b12), .unset, .unset, .unset, .unset, .unset, .unset, .unset] [])) _
    refine XS.aload X23.here hx rfl (hb hby at_145) rfl rfl ?_
    show Steps p.tables e below (T23.setTop (mkF m 147 #[.val (.int p1), .val (.int p2), .val (.int p3), .val (.int p4), .val (.int p5), .val (.int p6), .val (.int ((p1 &&& (15 : Int32)) + (1 : Int32))), .val (.ref b1), .val (.ref b6), .val (.ref b12), .unset, .unset, .unset, .unset, .unset, .unset, .unset] [(.ref b12)])) _
    refine XS.aload X23.here hx rfl (hb hby at_147) rfl rfl ?_
    show Steps p.tables e below (T23.setTop (mkF m 149 #[.val (.int p1), .val (.int p2), .val (.int p3), .val (.int p4), .val (.int p5), .val (.int p6), .val (.int ((p1 &&& (15 : Int32)) + (1 : Int32))), .val (.ref b1), .val (.ref b6), .val (.ref b12), .unset, .unset, .unset, .unset, .unset, .unset, .unset] [(.ref b1), (.ref b12)])) _
    refine XS.iconst X23.here hx rfl (hb hby at_149) ?_
    show Steps p.tables e below (T23.setTop (mkF m 150 #[.val (.int p1), .val (.int p2), .val (.int p3), .val (.int p4), .val (.int p5), .val (.int p6), .val (.int ((p1 &&& (15 : Int32)) + (1 : Int32))), .val (.ref b1), .val (.ref b6), .val (.ref b12), .unset, .unset, .unset, .unset, .unset, .unset, .unset] [(.int (1 : Int32)), (.ref b1), (.ref b12)])) _
    refine X23.iaload hx (j := (1 : Int32)) (v := (.int ((((p2.toUInt32 >>> ((4 : Int32) &&& 31).toUInt32).toInt32) &&& (15 : Int32)) % (3 : Int32)))) (by exact A25.1) (State.isArrayOf_alike hZ.alike A25.2.1) A25.2.2 hin25 hat25 (g := (mkF m 150 #[.val (.int p1), .val (.int p2), .val (.int p3), .val (.int p4), .val (.int p5), .val (.int p6), .val (.int ((p1 &&& (15 : Int32)) + (1 : Int32))), .val (.ref b1), .val (.ref b6), .val (.ref b12), .unset, .unset, .unset, .unset, .unset, .unset, .unset] [(.int (1 : Int32)), (.ref b1), (.ref b12)])) rfl rfl (hb hby at_150) _ ?_
    show Steps p.tables e below (T23.setTop (mkF m 151 #[.val (.int p1), .val (.int p2), .val (.int p3), .val (.int p4), .val (.int p5), .val (.int p6), .val (.int ((p1 &&& (15 : Int32)) + (1 : Int32))), .val (.ref b1), .val (.ref b6), .val (.ref b12), .unset, .unset, .unset, .unset, .unset, .unset, .unset] [(.int ((((p2.toUInt32 >>> ((4 : Int32) &&& 31).toUInt32).toInt32) &&& (15 : Int32)) % (3 : Int32))), (.ref b12)])) _
    refine XS.aload X23.here hx rfl (hb hby at_151) rfl rfl ?_
    show Steps p.tables e below (T23.setTop (mkF m 153 #[.val (.int p1), .val (.int p2), .val (.int p3), .val (.int p4), .val (.int p5), .val (.int p6), .val (.int ((p1 &&& (15 : Int32)) + (1 : Int32))), .val (.ref b1), .val (.ref b6), .val (.ref b12), .unset, .unset, .unset, .unset, .unset, .unset, .unset] [(.ref b6), (.int ((((p2.toUInt32 >>> ((4 : Int32) &&& 31).toUInt32).toInt32) &&& (15 : Int32)) % (3 : Int32))), (.ref b12)])) _
    refine XS.iconst X23.here hx rfl (hb hby at_153) ?_
    show Steps p.tables e below (T23.setTop (mkF m 154 #[.val (.int p1), .val (.int p2), .val (.int p3), .val (.int p4), .val (.int p5), .val (.int p6), .val (.int ((p1 &&& (15 : Int32)) + (1 : Int32))), .val (.ref b1), .val (.ref b6), .val (.ref b12), .unset, .unset, .unset, .unset, .unset, .unset, .unset] [(.int (1 : Int32)), (.ref b6), (.int ((((p2.toUInt32 >>> ((4 : Int32) &&& 31).toUInt32).toInt32) &&& (15 : Int32)) % (3 : Int32))), (.ref b12)])) _
    refine X23.iaload hx (j := (1 : Int32)) (v := (.int ((p4 &&& (2147483647 : Int32)) % ((p1 &&& (15 : Int32)) + (1 : Int32))))) (by exact A27.1) (State.isArrayOf_alike hZ.alike A27.2.1) A27.2.2 hin27 hat27 (g := (mkF m 154 #[.val (.int p1), .val (.int p2), .val (.int p3), .val (.int p4), .val (.int p5), .val (.int p6), .val (.int ((p1 &&& (15 : Int32)) + (1 : Int32))), .val (.ref b1), .val (.ref b6), .val (.ref b12), .unset, .unset, .unset, .unset, .unset, .unset, .unset] [(.int (1 : Int32)), (.ref b6), (.int ((((p2.toUInt32 >>> ((4 : Int32) &&& 31).toUInt32).toInt32) &&& (15 : Int32)) % (3 : Int32))), (.ref b12)])) rfl rfl (hb hby at_154) _ ?_
    show Steps p.tables e below (T23.setTop (mkF m 155 #[.val (.int p1), .val (.int p2), .val (.int p3), .val (.int p4), .val (.int p5), .val (.int p6), .val (.int ((p1 &&& (15 : Int32)) + (1 : Int32))), .val (.ref b1), .val (.ref b6), .val (.ref b12), .unset, .unset, .unset, .unset, .unset, .unset, .unset] [(.int ((p4 &&& (2147483647 : Int32)) % ((p1 &&& (15 : Int32)) + (1 : Int32)))), (.int ((((p2.toUInt32 >>> ((4 : Int32) &&& 31).toUInt32).toInt32) &&& (15 : Int32)) % (3 : Int32))), (.ref b12)])) _
    refine st29 _ ?_
    show Steps p.tables e below (T29.setTop (mkF m 158 #[.val (.int p1), .val (.int p2), .val (.int p3), .val (.int p4), .val (.int p5), .val (.int p6), .val (.int ((p1 &&& (15 : Int32)) + (1 : Int32))), .val (.ref b1), .val (.ref b6), .val (.ref b12), .unset, .unset, .unset, .unset, .unset, .unset, .unset] [])) _
    refine XS.aload X29.here hx rfl (hb hby at_158) rfl rfl ?_
    show Steps p.tables e below (T29.setTop (mkF m 160 #[.val (.int p1), .val (.int p2), .val (.int p3), .val (.int p4), .val (.int p5), .val (.int p6), .val (.int ((p1 &&& (15 : Int32)) + (1 : Int32))), .val (.ref b1), .val (.ref b6), .val (.ref b12), .unset, .unset, .unset, .unset, .unset, .unset, .unset] [(.ref b12)])) _
    refine XS.aload X29.here hx rfl (hb hby at_160) rfl rfl ?_
    show Steps p.tables e below (T29.setTop (mkF m 162 #[.val (.int p1), .val (.int p2), .val (.int p3), .val (.int p4), .val (.int p5), .val (.int p6), .val (.int ((p1 &&& (15 : Int32)) + (1 : Int32))), .val (.ref b1), .val (.ref b6), .val (.ref b12), .unset, .unset, .unset, .unset, .unset, .unset, .unset] [(.ref b1), (.ref b12)])) _
    refine XS.iconst X29.here hx rfl (hb hby at_162) ?_
    show Steps p.tables e below (T29.setTop (mkF m 163 #[.val (.int p1), .val (.int p2), .val (.int p3), .val (.int p4), .val (.int p5), .val (.int p6), .val (.int ((p1 &&& (15 : Int32)) + (1 : Int32))), .val (.ref b1), .val (.ref b6), .val (.ref b12), .unset, .unset, .unset, .unset, .unset, .unset, .unset] [(.int (2 : Int32)), (.ref b1), (.ref b12)])) _
    refine X29.iaload hx (j := (2 : Int32)) (v := (.int ((((p2.toUInt32 >>> ((8 : Int32) &&& 31).toUInt32).toInt32) &&& (15 : Int32)) % (3 : Int32)))) (by exact A31.1) (State.isArrayOf_alike hZ.alike A31.2.1) A31.2.2 hin31 hat31 (g := (mkF m 163 #[.val (.int p1), .val (.int p2), .val (.int p3), .val (.int p4), .val (.int p5), .val (.int p6), .val (.int ((p1 &&& (15 : Int32)) + (1 : Int32))), .val (.ref b1), .val (.ref b6), .val (.ref b12), .unset, .unset, .unset, .unset, .unset, .unset, .unset] [(.int (2 : Int32)), (.ref b1), (.ref b12)])) rfl rfl (hb hby at_163) _ ?_
    show Steps p.tables e below (T29.setTop (mkF m 164 #[.val (.int p1), .val (.int p2), .val (.int p3), .val (.int p4), .val (.int p5), .val (.int p6), .val (.int ((p1 &&& (15 : Int32)) + (1 : Int32))), .val (.ref b1), .val (.ref b6), .val (.ref b12), .unset, .unset, .unset, .unset, .unset, .unset, .unset] [(.int ((((p2.toUInt32 >>> ((8 : Int32) &&& 31).toUInt32).toInt32) &&& (15 : Int32)) % (3 : Int32))), (.ref b12)])) _
    refine XS.aload X29.here hx rfl (hb hby at_164) rfl rfl ?_
    show Steps p.tables e below (T29.setTop (mkF m 166 #[.val (.int p1), .val (.int p2), .val (.int p3), .val (.int p4), .val (.int p5), .val (.int p6), .val (.int ((p1 &&& (15 : Int32)) + (1 : Int32))), .val (.ref b1), .val (.ref b6), .val (.ref b12), .unset, .unset, .unset, .unset, .unset, .unset, .unset] [(.ref b6), (.int ((((p2.toUInt32 >>> ((8 : Int32) &&& 31).toUInt32).toInt32) &&& (15 : Int32)) % (3 : Int32))), (.ref b12)])) _
    refine XS.iconst X29.here hx rfl (hb hby at_166) ?_
    show Steps p.tables e below (T29.setTop (mkF m 167 #[.val (.int p1), .val (.int p2), .val (.int p3), .val (.int p4), .val (.int p5), .val (.int p6), .val (.int ((p1 &&& (15 : Int32)) + (1 : Int32))), .val (.ref b1), .val (.ref b6), .val (.ref b12), .unset, .unset, .unset, .unset, .unset, .unset, .unset] [(.int (2 : Int32)), (.ref b6), (.int ((((p2.toUInt32 >>> ((8 : Int32) &&& 31).toUInt32).toInt32) &&& (15 : Int32)) % (3 : Int32))), (.ref b12)])) _
    refine X29.iaload hx (j := (2 : Int32)) (v := (.int ((p5 &&& (2147483647 : Int32)) % ((p1 &&& (15 : Int32)) + (1 : Int32))))) (by exact A33.1) (State.isArrayOf_alike hZ.alike A33.2.1) A33.2.2 hin33 hat33 (g := (mkF m 167 #[.val (.int p1), .val (.int p2), .val (.int p3), .val (.int p4), .val (.int p5), .val (.int p6), .val (.int ((p1 &&& (15 : Int32)) + (1 : Int32))), .val (.ref b1), .val (.ref b6), .val (.ref b12), .unset, .unset, .unset, .unset, .unset, .unset, .unset] [(.int (2 : Int32)), (.ref b6), (.int ((((p2.toUInt32 >>> ((8 : Int32) &&& 31).toUInt32).toInt32) &&& (15 : Int32)) % (3 : Int32))), (.ref b12)])) rfl rfl (hb hby at_167) _ ?_
    show Steps p.tables e below (T29.setTop (mkF m 168 #[.val (.int p1), .val (.int p2), .val (.int p3), .val (.int p4), .val (.int p5), .val (.int p6), .val (.int ((p1 &&& (15 : Int32)) + (1 : Int32))), .val (.ref b1), .val (.ref b6), .val (.ref b12), .unset, .unset, .unset, .unset, .unset, .unset, .unset] [(.int ((p5 &&& (2147483647 : Int32)) % ((p1 &&& (15 : Int32)) + (1 : Int32)))), (.int ((((p2.toUInt32 >>> ((8 : Int32) &&& 31).toUInt32).toInt32) &&& (15 : Int32)) % (3 : Int32))), (.ref b12)])) _
    refine st35 _ ?_
    show Steps p.tables e below (T35.setTop (mkF m 171 #[.val (.int p1), .val (.int p2), .val (.int p3), .val (.int p4), .val (.int p5), .val (.int p6), .val (.int ((p1 &&& (15 : Int32)) + (1 : Int32))), .val (.ref b1), .val (.ref b6), .val (.ref b12), .unset, .unset, .unset, .unset, .unset, .unset, .unset] [])) _
    refine XS.aload X35.here hx rfl (hb hby at_171) rfl rfl ?_
    show Steps p.tables e below (T35.setTop (mkF m 173 #[.val (.int p1), .val (.int p2), .val (.int p3), .val (.int p4), .val (.int p5), .val (.int p6), .val (.int ((p1 &&& (15 : Int32)) + (1 : Int32))), .val (.ref b1), .val (.ref b6), .val (.ref b12), .unset, .unset, .unset, .unset, .unset, .unset, .unset] [(.ref b12)])) _
    refine XS.aload X35.here hx rfl (hb hby at_173) rfl rfl ?_
    show Steps p.tables e below (T35.setTop (mkF m 175 #[.val (.int p1), .val (.int p2), .val (.int p3), .val (.int p4), .val (.int p5), .val (.int p6), .val (.int ((p1 &&& (15 : Int32)) + (1 : Int32))), .val (.ref b1), .val (.ref b6), .val (.ref b12), .unset, .unset, .unset, .unset, .unset, .unset, .unset] [(.ref b1), (.ref b12)])) _
    refine XS.iconst X35.here hx rfl (hb hby at_175) ?_
    show Steps p.tables e below (T35.setTop (mkF m 176 #[.val (.int p1), .val (.int p2), .val (.int p3), .val (.int p4), .val (.int p5), .val (.int p6), .val (.int ((p1 &&& (15 : Int32)) + (1 : Int32))), .val (.ref b1), .val (.ref b6), .val (.ref b12), .unset, .unset, .unset, .unset, .unset, .unset, .unset] [(.int (3 : Int32)), (.ref b1), (.ref b12)])) _
    refine X35.iaload hx (j := (3 : Int32)) (v := (.int ((((p2.toUInt32 >>> ((12 : Int32) &&& 31).toUInt32).toInt32) &&& (15 : Int32)) % (3 : Int32)))) (by exact A37.1) (State.isArrayOf_alike hZ.alike A37.2.1) A37.2.2 hin37 hat37 (g := (mkF m 176 #[.val (.int p1), .val (.int p2), .val (.int p3), .val (.int p4), .val (.int p5), .val (.int p6), .val (.int ((p1 &&& (15 : Int32)) + (1 : Int32))), .val (.ref b1), .val (.ref b6), .val (.ref b12), .unset, .unset, .unset, .unset, .unset, .unset, .unset] [(.int (3 : Int32)), (.ref b1), (.ref b12)])) rfl rfl (hb hby at_176) _ ?_
    show Steps p.tables e below (T35.setTop (mkF m 177 #[.val (.int p1), .val (.int p2), .val (.int p3), .val (.int p4), .val (.int p5), .val (.int p6), .val (.int ((p1 &&& (15 : Int32)) + (1 : Int32))), .val (.ref b1), .val (.ref b6), .val (.ref b12), .unset, .unset, .unset, .unset, .unset, .unset, .unset] [(.int ((((p2.toUInt32 >>> ((12 : Int32) &&& 31).toUInt32).toInt32) &&& (15 : Int32)) % (3 : Int32))), (.ref b12)])) _
    refine XS.aload X35.here hx rfl (hb hby at_177) rfl rfl ?_
    show Steps p.tables e below (T35.setTop (mkF m 179 #[.val (.int p1), .val (.int p2), .val (.int p3), .val (.int p4), .val (.int p5), .val (.int p6), .val (.int ((p1 &&& (15 : Int32)) + (1 : Int32))), .val (.ref b1), .val (.ref b6), .val (.ref b12), .unset, .unset, .unset, .unset, .unset, .unset, .unset] [(.ref b6), (.int ((((p2.toUInt32 >>> ((12 : Int32) &&& 31).toUInt32).toInt32) &&& (15 : Int32)) % (3 : Int32))), (.ref b12)])) _
    refine XS.iconst X35.here hx rfl (hb hby at_179) ?_
    show Steps p.tables e below (T35.setTop (mkF m 180 #[.val (.int p1), .val (.int p2), .val (.int p3), .val (.int p4), .val (.int p5), .val (.int p6), .val (.int ((p1 &&& (15 : Int32)) + (1 : Int32))), .val (.ref b1), .val (.ref b6), .val (.ref b12), .unset, .unset, .unset, .unset, .unset, .unset, .unset] [(.int (3 : Int32)), (.ref b6), (.int ((((p2.toUInt32 >>> ((12 : Int32) &&& 31).toUInt32).toInt32) &&& (15 : Int32)) % (3 : Int32))), (.ref b12)])) _
    refine X35.iaload hx (j := (3 : Int32)) (v := (.int ((p6 &&& (2147483647 : Int32)) % ((p1 &&& (15 : Int32)) + (1 : Int32))))) (by exact A39.1) (State.isArrayOf_alike hZ.alike A39.2.1) A39.2.2 hin39 hat39 (g := (mkF m 180 #[.val (.int p1), .val (.int p2), .val (.int p3), .val (.int p4), .val (.int p5), .val (.int p6), .val (.int ((p1 &&& (15 : Int32)) + (1 : Int32))), .val (.ref b1), .val (.ref b6), .val (.ref b12), .unset, .unset, .unset, .unset, .unset, .unset, .unset] [(.int (3 : Int32)), (.ref b6), (.int ((((p2.toUInt32 >>> ((12 : Int32) &&& 31).toUInt32).toInt32) &&& (15 : Int32)) % (3 : Int32))), (.ref b12)])) rfl rfl (hb hby at_180) _ ?_
    show Steps p.tables e below (T35.setTop (mkF m 181 #[.val (.int p1), .val (.int p2), .val (.int p3), .val (.int p4), .val (.int p5), .val (.int p6), .val (.int ((p1 &&& (15 : Int32)) + (1 : Int32))), .val (.ref b1), .val (.ref b6), .val (.ref b12), .unset, .unset, .unset, .unset, .unset, .unset, .unset] [(.int ((p6 &&& (2147483647 : Int32)) % ((p1 &&& (15 : Int32)) + (1 : Int32)))), (.int ((((p2.toUInt32 >>> ((12 : Int32) &&& 31).toUInt32).toInt32) &&& (15 : Int32)) % (3 : Int32))), (.ref b12)])) _
    refine st41 _ ?_
    show Steps p.tables e below (T41.setTop (mkF m 184 #[.val (.int p1), .val (.int p2), .val (.int p3), .val (.int p4), .val (.int p5), .val (.int p6), .val (.int ((p1 &&& (15 : Int32)) + (1 : Int32))), .val (.ref b1), .val (.ref b6), .val (.ref b12), .unset, .unset, .unset, .unset, .unset, .unset, .unset] [])) _
    refine st43 _ ?_
    show Steps p.tables e below (T43.setTop (mkF m 187 #[.val (.int p1), .val (.int p2), .val (.int p3), .val (.int p4), .val (.int p5), .val (.int p6), .val (.int ((p1 &&& (15 : Int32)) + (1 : Int32))), .val (.ref b1), .val (.ref b6), .val (.ref b12), .unset, .unset, .unset, .unset, .unset, .unset, .unset] [(.ref b43)])) _
    refine XS.dup X43.here hx rfl (hb hby at_187) rfl rfl ?_
    show Steps p.tables e below (T43.setTop (mkF m 188 #[.val (.int p1), .val (.int p2), .val (.int p3), .val (.int p4), .val (.int p5), .val (.int p6), .val (.int ((p1 &&& (15 : Int32)) + (1 : Int32))), .val (.ref b1), .val (.ref b6), .val (.ref b12), .unset, .unset, .unset, .unset, .unset, .unset, .unset] [(.ref b43), (.ref b43)])) _
    refine XS.iconst X43.here hx rfl (hb hby at_188) ?_
    show Steps p.tables e below (T43.setTop (mkF m 189 #[.val (.int p1), .val (.int p2), .val (.int p3), .val (.int p4), .val (.int p5), .val (.int p6), .val (.int ((p1 &&& (15 : Int32)) + (1 : Int32))), .val (.ref b1), .val (.ref b6), .val (.ref b12), .unset, .unset, .unset, .unset, .unset, .unset, .unset] [(.int (3 : Int32)), (.ref b43), (.ref b43)])) _
    refine XS.iload X43.here hx rfl (hb hby at_189) rfl ?_
    show Steps p.tables e below (T43.setTop (mkF m 191 #[.val (.int p1), .val (.int p2), .val (.int p3), .val (.int p4), .val (.int p5), .val (.int p6), .val (.int ((p1 &&& (15 : Int32)) + (1 : Int32))), .val (.ref b1), .val (.ref b6), .val (.ref b12), .unset, .unset, .unset, .unset, .unset, .unset, .unset] [(.int ((p1 &&& (15 : Int32)) + (1 : Int32))), (.int (3 : Int32)), (.ref b43), (.ref b43)])) _
    refine XS.iconst X43.here hx rfl (hb hby at_191) ?_
    show Steps p.tables e below (T43.setTop (mkF m 192 #[.val (.int p1), .val (.int p2), .val (.int p3), .val (.int p4), .val (.int p5), .val (.int p6), .val (.int ((p1 &&& (15 : Int32)) + (1 : Int32))), .val (.ref b1), .val (.ref b6), .val (.ref b12), .unset, .unset, .unset, .unset, .unset, .unset, .unset] [(.int (1 : Int32)), (.int ((p1 &&& (15 : Int32)) + (1 : Int32))), (.int (3 : Int32)), (.ref b43), (.ref b43)])) _
    refine XS.isub X43.here hx rfl (hb hby at_192) rfl ?_
    show Steps p.tables e below (T43.setTop (mkF m 193 #[.val (.int p1), .val (.int p2), .val (.int p3), .val (.int p4), .val (.int p5), .val (.int p6), .val (.int ((p1 &&& (15 : Int32)) + (1 : Int32))), .val (.ref b1), .val (.ref b6), .val (.ref b12), .unset, .unset, .unset, .unset, .unset, .unset, .unset] [(.int (((p1 &&& (15 : Int32)) + (1 : Int32)) - (1 : Int32))), (.int (3 : Int32)), (.ref b43), (.ref b43)])) _
    refine st49.trans ?_
    show Steps p.tables e below (T49.setTop (mkF m 196 #[.val (.int p1), .val (.int p2), .val (.int p3), .val (.int p4), .val (.int p5), .val (.int p6), .val (.int ((p1 &&& (15 : Int32)) + (1 : Int32))), .val (.ref b1), .val (.ref b6), .val (.ref b12), .unset, .unset, .unset, .unset, .unset, .unset, .unset] [(.ref b43)])) _
    refine XS.astore X49.here hx rfl (hb hby at_196) rfl rfl (l' := #[.val (.int p1), .val (.int p2), .val (.int p3), .val (.int p4), .val (.int p5), .val (.int p6), .val (.int ((p1 &&& (15 : Int32)) + (1 : Int32))), .val (.ref b1), .val (.ref b6), .val (.ref b12), .val (.ref b43), .unset, .unset, .unset, .unset, .unset, .unset]) rfl ?_
    show Steps p.tables e below (T49.setTop (mkF m 198 #[.val (.int p1), .val (.int p2), .val (.int p3), .val (.int p4), .val (.int p5), .val (.int p6), .val (.int ((p1 &&& (15 : Int32)) + (1 : Int32))), .val (.ref b1), .val (.ref b6), .val (.ref b12), .val (.ref b43), .unset, .unset, .unset, .unset, .unset, .unset] [])) _
    refine XS.aload X49.here hx rfl (hb hby at_198) rfl rfl ?_
    show Steps p.tables e below (T49.setTop (mkF m 200 #[.val (.int p1), .val (.int p2), .val (.int p3), .val (.int p4), .val (.int p5), .val (.int p6), .val (.int ((p1 &&& (15 : Int32)) + (1 : Int32))), .val (.ref b1), .val (.ref b6), .val (.ref b12), .val (.ref b43), .unset, .unset, .unset, .unset, .unset, .unset] [(.ref b43)])) _
    refine XS.aload X49.here hx rfl (hb hby at_200) rfl rfl ?_
    show Steps p.tables e below (T49.setTop (mkF m 202 #[.val (.int p1), .val (.int p2), .val (.int p3), .val (.int p4), .val (.int p5), .val (.int p6), .val (.int ((p1 &&& (15 : Int32)) + (1 : Int32))), .val (.ref b1), .val (.ref b6), .val (.ref b12), .val (.ref b43), .unset, .unset, .unset, .unset, .unset, .unset] [(.ref b1), (.ref b43)])) _
    refine XS.iconst X49.here hx rfl (hb hby at_202) ?_
    show Steps p.tables e below (T49.setTop (mkF m 203 #[.val (.int p1), .val (.int p2), .val (.int p3), .val (.int p4), .val (.int p5), .val (.int p6), .val (.int ((p1 &&& (15 : Int32)) + (1 : Int32))), .val (.ref b1), .val (.ref b6), .val (.ref b12), .val (.ref b43), .unset, .unset, .unset, .unset, .unset, .unset] [(.int (0 : Int32)), (.ref b1), (.ref b43)])) _
    refine X49.iaload hx (j := (0 : Int32)) (v := (.int ((p2 &&& (15 : Int32)) % (3 : Int32)))) (by exact A74.1) (State.isArrayOf_alike hZ.alike A74.2.1) A74.2.2 hin74 hat74 (g := (mkF m 203 #[.val (.int p1), .val (.int p2), .val (.int p3), .val (.int p4), .val (.int p5), .val (.int p6), .val (.int ((p1 &&& (15 : Int32)) + (1 : Int32))), .val (.ref b1), .val (.ref b6), .val (.ref b12), .val (.ref b43), .unset, .unset, .unset, .unset, .unset, .unset] [(.int (0 : Int32)), (.ref b1), (.ref b43)])) rfl rfl (hb hby at_203) _ ?_
    show Steps p.tables e below (T49.setTop (mkF m 204 #[.val (.int p1), .val (.int p2), .val (.int p3), .val (.int p4), .val (.int p5), .val (.int p6), .val (.int ((p1 &&& (15 : Int32)) + (1 : Int32))), .val (.ref b1), .val (.ref b6), .val (.ref b12), .val (.ref b43), .unset, .unset, .unset, .unset, .unset, .unset] [(.int ((p2 &&& (15 : Int32)) % (3 : Int32))), (.ref b43)])) _
    refine XS.aload X49.here hx rfl (hb hby at_204) rfl rfl ?_
    show Steps p.tables e below (T49.setTop (mkF m 206 #[.val (.int p1), .val (.int p2), .val (.int p3), .val (.int p4), .val (.int p5), .val (.int p6), .val (.int ((p1 &&& (15 : Int32)) + (1 : Int32))), .val (.ref b1), .val (.ref b6), .val (.ref b12), .val (.ref b43), .unset, .unset, .unset, .unset, .unset, .unset] [(.ref b6), (.int ((p2 &&& (15 : Int32)) % (3 : Int32))), (.ref b43)])) _
    refine XS.iconst X49.here hx rfl (hb hby at_206) ?_
    show Steps p.tables e below (T49.setTop (mkF m 207 #[.val (.int p1), .val (.int p2), .val (.int p3), .val (.int p4), .val (.int p5), .val (.int p6), .val (.int ((p1 &&& (15 : Int32)) + (1 : Int32))), .val (.ref b1), .val (.ref b6), .val (.ref b12), .val (.ref b43), .unset, .unset, .unset, .unset, .unset, .unset] [(.int (0 : Int32)), (.ref b6), (.int ((p2 &&& (15 : Int32)) % (3 : Int32))), (.ref b43)])) _
    refine X49.iaload hx (j := (0 : Int32)) (v := (.int ((p3 &&& (2147483647 : Int32)) % ((p1 &&& (15 : Int32)) + (1 : Int32))))) (by exact A76.1) (State.isArrayOf_alike hZ.alike A76.2.1) A76.2.2 hin76 hat76 (g := (mkF m 207 #[.val (.int p1), .val (.int p2), .val (.int p3), .val (.int p4), .val (.int p5), .val (.int p6), .val (.int ((p1 &&& (15 : Int32)) + (1 : Int32))), .val (.ref b1), .val (.ref b6), .val (.ref b12), .val (.ref b43), .unset, .unset, .unset, .unset, .unset, .unset] [(.int (0 : Int32)), (.ref b6), (.int ((p2 &&& (15 : Int32)) % (3 : Int32))), (.ref b43)])) rfl rfl (hb hby at_207) _ ?_
    show Steps p.tables e below (T49.setTop (mkF m 208 #[.val (.int p1), .val (.int p2), .val (.int p3), .val (.int p4), .val (.int p5), .val (.int p6), .val (.int ((p1 &&& (15 : Int32)) + (1 : Int32))), .val (.ref b1), .val (.ref b6), .val (.ref b12), .val (.ref b43), .unset, .unset, .unset, .unset, .unset, .unset] [(.int ((p3 &&& (2147483647 : Int32)) % ((p1 &&& (15 : Int32)) + (1 : Int32)))), (.int ((p2 &&& (15 : Int32)) % (3 : Int32))), (.ref b43)])) _
    refine st79.trans ?_
    show Steps p.tables e below (T79.setTop (mkF m 211 #[.val (.int p1), .val (.int p2), .val (.int p3), .val (.int p4), .val (.int p5), .val (.int p6), .val (.int ((p1 &&& (15 : Int32)) + (1 : Int32))), .val (.ref b1), .val (.ref b6), .val (.ref b12), .val (.ref b43), .unset, .unset, .unset, .unset, .unset, .unset] [])) _
    refine XS.aload X79.here hx rfl (hb hby at_211) rfl rfl ?_
    show Steps p.tables e below (T79.setTop (mkF m 213 #[.val (.int p1), .val (.int p2), .val (.int p3), .val (.int p4), .val (.int p5), .val (.int p6), .val (.int ((p1 &&& (15 : Int32)) + (1 : Int32))), .val (.ref b1), .val (.ref b6), .val (.ref b12), .val (.ref b43), .unset, .unset, .unset, .unset, .unset, .unset] [(.ref b43)])) _
    refine XS.aload X79.here hx rfl (hb hby at_213) rfl rfl ?_
    show Steps p.tables e below (T79.setTop (mkF m 215 #[.val (.int p1), .val (.int p2), .val (.int p3), .val (.int p4), .val (.int p5), .val (.int p6), .val (.int ((p1 &&& (15 : Int32)) + (1 : Int32))), .val (.ref b1), .val (.ref b6), .val (.ref b12), .val (.ref b43), .unset, .unset, .unset, .unset, .unset, .unset] [(.ref b1), (.ref b43)])) _
    refine XS.iconst X79.here hx rfl (hb hby at_215) ?_
    show Steps p.tables e below (T79.setTop (mkF m 216 #[.val (.int p1), .val (.int p2), .val (.int p3), .val (.int p4), .val (.int p5), .val (.int p6), .val (.int ((p1 &&& (15 : Int32)) + (1 : Int32))), .val (.ref b1), .val (.ref b6), .val (.ref b12), .val (.ref b43), .unset, .unset, .unset, .unset, .unset, .unset] [(.int (1 : Int32)), (.ref b1), (.ref b43)])) _
    refine X79.iaload hx (j := (1 : Int32)) (v := (.int ((((p2.toUInt32 >>> ((4 : Int32) &&& 31).toUInt32).toInt32) &&& (15 : Int32)) % (3 : Int32)))) (by exact A81.1) (State.isArrayOf_alike hZ.alike A81.2.1) A81.2.2 hin81 hat81 (g := (mkF m 216 #[.val (.int p1), .val (.int p2), .val (.int p3), .val (.int p4), .val (.int p5), .val (.int p6), .val (.int ((p1 &&& (15 : Int32)) + (1 : Int32))), .val (.ref b1), .val (.ref b6), .val (.ref b12), .val (.ref b43), .unset, .unset, .unset, .unset, .unset, .unset] [(.int (1 : Int32)), (.ref b1), (.ref b43)])) rfl rfl (hb hby at_216) _ ?_
    show Steps p.tables e below (T79.setTop (mkF m 217 #[.val (.int p1), .val (.int p2), .val (.int p3), .val (.int p4), .val (.int p5), .val (.int p6), .val (.int ((p1 &&& (15 : Int32)) + (1 : Int32))), .val (.ref b1), .val (.ref b6), .val (.ref b12), .val (.ref b43), .unset, .unset, .unset, .unset, .unset, .unset] [(.int ((((p2.toUInt32 >>> ((4 : Int32) &&& 31).toUInt32).toInt32) &&& (15 : Int32)) % (3 : Int32))), (.ref b43)])) _
    refine XS.aload X79.here hx rfl (hb hby at_217) rfl rfl ?_
    show Steps p.tables e below (T79.setTop (mkF m 219 #[.val (.int p1), .val (.int p2), .val (.int p3), .val (.int p4), .val (.int p5), .val (.int p6), .val (.int ((p1 &&& (15 : Int32)) + (1 : Int32))), .val (.ref b1), .val (.ref b6), .val (.ref b12), .val (.ref b43), .unset, .unset, .unset, .unset, .unset, .unset] [(.ref b6), (.int ((((p2.toUInt32 >>> ((4 : Int32) &&& 31).toUInt32).toInt32) &&& (15 : Int32)) % (3 : Int32))), (.ref b43)])) _
    refine XS.iconst X79.here hx rfl (hb hby at_219) ?_
    show Steps p.tables e below (T79.setTop (mkF m 220 #[.val (.int p1), .val (.int p2), .val (.int p3), .val (.int p4), .val (.int p5), .val (.int p6), .val (.int ((p1 &&& (15 : Int32)) + (1 : Int32))), .val (.ref b1), .val (.ref b6), .val (.ref b12), .val (.ref b43), .unset, .unset, .unset, .unset, .unset, .unset] [(.int (1 : Int32)), (.ref b6), (.int ((((p2.toUInt32 >>> ((4 : Int32) &&& 31).toUInt32).toInt32) &&& (15 : Int32)) % (3 : Int32))), (.ref b43)])) _
    refine X79.iaload hx (j := (1 : Int32)) (v := (.int ((p4 &&& (2147483647 : Int32)) % ((p1 &&& (15 : Int32)) + (1 : Int32))))) (by exact A83.1) (State.isArrayOf_alike hZ.alike A83.2.1) A83.2.2 hin83 hat83 (g := (mkF m 220 #[.val (.int p1), .val (.int p2), .val (.int p3), .val (.int p4), .val (.int p5), .val (.int p6), .val (.int ((p1 &&& (15 : Int32)) + (1 : Int32))), .val (.ref b1), .val (.ref b6), .val (.ref b12), .val (.ref b43), .unset, .unset, .unset, .unset, .unset, .unset] [(.int (1 : Int32)), (.ref b6), (.int ((((p2.toUInt32 >>> ((4 : Int32) &&& 31).toUInt32).toInt32) &&& (15 : Int32)) % (3 : Int32))), (.ref b43)])) rfl rfl (hb hby at_220) _ ?_
    show Steps p.tables e below (T79.setTop (mkF m 221 #[.val (.int p1), .val (.int p2), .val (.int p3), .val (.int p4), .val (.int p5), .val (.int p6), .val (.int ((p1 &&& (15 : Int32)) + (1 : Int32))), .val (.ref b1), .val (.ref b6), .val (.ref b12), .val (.ref b43), .unset, .unset, .unset, .unset, .unset, .unset] [(.int ((p4 &&& (2147483647 : Int32)) % ((p1 &&& (15 : Int32)) + (1 : Int32)))), (.int ((((p2.toUInt32 >>> ((4 : Int32) &&& 31).toUInt32).toInt32) &&& (15 : Int32)) % (3 : Int32))), (.ref b43)])) _
    refine st86.trans ?_
    show Steps p.tables e below (T86.setTop (mkF m 224 #[.val (.int p1), .val (.int p2), .val (.int p3), .val (.int p4), .val (.int p5), .val (.int p6), .val (.int ((p1 &&& (15 : Int32)) + (1 : Int32))), .val (.ref b1), .val (.ref b6), .val (.ref b12), .val (.ref b43), .unset, .unset, .unset, .unset, .unset, .unset] [])) _
    refine XS.aload X86.here hx rfl (hb hby at_224) rfl rfl ?_
    show Steps p.tables e below (T86.setTop (mkF m 226 #[.val (.int p1), .val (.int p2), .val (.int p3), .val (.int p4), .val (.int p5), .val (.int p6), .val (.int ((p1 &&& (15 : Int32)) + (1 : Int32))), .val (.ref b1), .val (.ref b6), .val (.ref b12), .val (.ref b43), .unset, .unset, .unset, .unset, .unset, .unset] [(.ref b43)])) _
    refine XS.aload X86.here hx rfl (hb hby at_226) rfl rfl ?_
    show Steps p.tables e below (T86.setTop (mkF m 228 #[.val (.int p1), .val (.int p2), .val (.int p3), .val (.int p4), .val (.int p5), .val (.int p6), .val (.int ((p1 &&& (15 : Int32)) + (1 : Int32))), .val (.ref b1), .val (.ref b6), .val (.ref b12), .val (.ref b43), .unset, .unset, .unset, .unset, .unset, .unset] [(.ref b1), (.ref b43)])) _
    refine XS.iconst X86.here hx rfl (hb hby at_228) ?_
    show Steps p.tables e below (T86.setTop (mkF m 229 #[.val (.int p1), .val (.int p2), .val (.int p3), .val (.int p4), .val (.int p5), .val (.int p6), .val (.int ((p1 &&& (15 : Int32)) + (1 : Int32))), .val (.ref b1), .val (.ref b6), .val (.ref b12), .val (.ref b43), .unset, .unset, .unset, .unset, .unset, .unset] [(.int (2 : Int32)), (.ref b1), (.ref b43)])) _
    refine X86.iaload hx (j := (2 : Int32)) (v := (.int ((((p2.toUInt32 >>> ((8 : Int32) &&& 31).toUInt32).toInt32) &&& (15 : Int32)) % (3 : Int32)))) (by exact A88.1) (State.isArrayOf_alike hZ.alike A88.2.1) A88.2.2 hin88 hat88 (g := (mkF m 229 #[.val (.int p1), .val (.int p2), .val (.int p3), .val (.int p4), .val (.int p5), .val (.int p6), .val (.int ((p1 &&& (15 : Int32)) + (1 : Int32))), .val (.ref b1), .val (.ref b6), .val (.ref b12), .val (.ref b43), .unset, .unset, .unset, .unset, .unset, .unset] [(.int (2 : Int32)), (.ref b1), (.ref b43)])) rfl rfl (hb hby at_229) _ ?_
    show Steps p.tables e below (T86.setTop (mkF m 230 #[.val (.int p1), .val (.int p2), .val (.int p3), .val (.int p4), .val (.int p5), .val (.int p6), .val (.int ((p1 &&& (15 : Int32)) + (1 : Int32))), .val (.ref b1), .val (.ref b6), .val (.ref b12), .val (.ref b43), .unset, .unset, .unset, .unset, .unset, .unset] [(.int ((((p2.toUInt32 >>> ((8 : Int32) &&& 31).toUInt32).toInt32) &&& (15 : Int32)) % (3 : Int32))), (.ref b43)])) _
    refine XS.aload X86.here hx rfl (hb hby at_230) rfl rfl ?_
    show Steps p.tables e below (T86.setTop (mkF m 232 #[.val (.int p1), .val (.int p2), .val (.int p3), .val (.int p4), .val (.int p5), .val (.int p6), .val (.int ((p1 &&& (15 : Int32)) + (1 : Int32))), .val (.ref b1), .val (.ref b6), .val (.ref b12), .val (.ref b43), .unset, .unset, .unset, .unset, .unset, .unset] [(.ref b6), (.int ((((p2.toUInt32 >>> ((8 : Int32) &&& 31).toUInt32).toInt32) &&& (15 : Int32)) % (3 : Int32))), (.ref b43)])) _
    refine XS.iconst X86.here hx rfl (hb hby at_232) ?_
    show Steps p.tables e below (T86.setTop (mkF m 233 #[.val (.int p1), .val (.int p2), .val (.int p3), .val (.int p4), .val (.int p5), .val (.int p6), .val (.int ((p1 &&& (15 : Int32)) + (1 : Int32))), .val (.ref b1), .val (.ref b6), .val (.ref b12), .val (.ref b43), .unset, .unset, .unset, .unset, .unset, .unset] [(.int (2 : Int32)), (.ref b6), (.int ((((p2.toUInt32 >>> ((8 : Int32) &&& 31).toUInt32).toInt32) &&& (15 : Int32)) % (3 : Int32))), (.ref b43)])) _
    refine X86.iaload hx (j := (2 : Int32)) (v := (.int ((p5 &&& (2147483647 : Int32)) % ((p1 &&& (15 : Int32)) + (1 : Int32))))) (by exact A90.1) (State.isArrayOf_alike hZ.alike A90.2.1) A90.2.2 hin90 hat90 (g := (mkF m 233 #[.val (.int p1), .val (.int p2), .val (.int p3), .val (.int p4), .val (.int p5), .val (.int p6), .val (.int ((p1 &&& (15 : Int32)) + (1 : Int32))), .val (.ref b1), .val (.ref b6), .val (.ref b12), .val (.ref b43), .unset, .unset, .unset, .unset, .unset, .unset] [(.int (2 : Int32)), (.ref b6), (.int ((((p2.toUInt32 >>> ((8 : Int32) &&& 31).toUInt32).toInt32) &&& (15 : Int32)) % (3 : Int32))), (.ref b43)])) rfl rfl (hb hby at_233) _ ?_
    show Steps p.tables e below (T86.setTop (mkF m 234 #[.val (.int p1), .val (.int p2), .val (.int p3), .val (.int p4), .val (.int p5), .val (.int p6), .val (.int ((p1 &&& (15 : Int32)) + (1 : Int32))), .val (.ref b1), .val (.ref b6), .val (.ref b12), .val (.ref b43), .unset, .unset, .unset, .unset, .unset, .unset] [(.int ((p5 &&& (2147483647 : Int32)) % ((p1 &&& (15 : Int32)) + (1 : Int32)))), (.int ((((p2.toUInt32 >>> ((8 : Int32) &&& 31).toUInt32).toInt32) &&& (15 : Int32)) % (3 : Int32))), (.ref b43)])) _
    refine st93.trans ?_
    show Steps p.tables e below (T93.setTop (mkF m 237 #[.val (.int p1), .val (.int p2), .val (.int p3), .val (.int p4), .val (.int p5), .val (.int p6), .val (.int ((p1 &&& (15 : Int32)) + (1 : Int32))), .val (.ref b1), .val (.ref b6), .val (.ref b12), .val (.ref b43), .unset, .unset, .unset, .unset, .unset, .unset] [])) _
    refine XS.aload X93.here hx rfl (hb hby at_237) rfl rfl ?_
    show Steps p.tables e below (T93.setTop (mkF m 239 #[.val (.int p1), .val (.int p2), .val (.int p3), .val (.int p4), .val (.int p5), .val (.int p6), .val (.int ((p1 &&& (15 : Int32)) + (1 : Int32))), .val (.ref b1), .val (.ref b6), .val (.ref b12), .val (.ref b43), .unset, .unset, .unset, .unset, .unset, .unset] [(.ref b43)])) _
    refine XS.aload X93.here hx rfl (hb hby at_239) rfl rfl ?_
    show Steps p.tables e below (T93.setTop (mkF m 241 #[.val (.int p1), .val (.int p2), .val (.int p3), .val (.int p4), .val (.int p5), .val (.int p6), .val (.int ((p1 &&& (15 : Int32)) + (1 : Int32))), .val (.ref b1), .val (.ref b6), .val (.ref b12), .val (.ref b43), .unset, .unset, .unset, .unset, .unset, .unset] [(.ref b1), (.ref b43)])) _
    refine XS.iconst X93.here hx rfl (hb hby at_241) ?_
    show Steps p.tables e below (T93.setTop (mkF m 242 #[.val (.int p1), .val (.int p2), .val (.int p3), .val (.int p4), .val (.int p5), .val (.int p6), .val (.int ((p1 &&& (15 : Int32)) + (1 : Int32))), .val (.ref b1), .val (.ref b6), .val (.ref b12), .val (.ref b43), .unset, .unset, .unset, .unset, .unset, .unset] [(.int (3 : Int32)), (.ref b1), (.ref b43)])) _
    refine X93.iaload hx (j := (3 : Int32)) (v := (.int ((((p2.toUInt32 >>> ((12 : Int32) &&& 31).toUInt32).toInt32) &&& (15 : Int32)) % (3 : Int32)))) (by exact A95.1) (State.isArrayOf_alike hZ.alike A95.2.1) A95.2.2 hin95 hat95 (g := (mkF m 242 #[.val (.int p1), .val (.int p2), .val (.int p3), .val (.int p4), .val (.int p5), .val (.int p6), .val (.int ((p1 &&& (15 : Int32)) + (1 : Int32))), .val (.ref b1), .val (.ref b6), .val (.ref b12), .val (.ref b43), .unset, .unset, .unset, .unset, .unset, .unset] [(.int (3 : Int32)), (.ref b1), (.ref b43)])) rfl rfl (hb hby at_242) _ ?_
    show Steps p.tables e below (T93.setTop (mkF m 243 #[.val (.int p1), .val (.int p2), .val (.int p3), .val (.int p4), .val (.int p5), .val (.int p6), .val (.int ((p1 &&& (15 : Int32)) + (1 : Int32))), .val (.ref b1), .val (.ref b6), .val (.ref b12), .val (.ref b43), .unset, .unset, .unset, .unset, .unset, .unset] [(.int ((((p2.toUInt32 >>> ((12 : Int32) &&& 31).toUInt32).toInt32) &&& (15 : Int32)) % (3 : Int32))), (.ref b43)])) _
    refine XS.aload X93.here hx rfl (hb hby at_243) rfl rfl ?_
    show Steps p.tables e below (T93.setTop (mkF m 245 #[.val (.int p1), .val (.int p2), .val (.int p3), .val (.int p4), .val (.int p5), .val (.int p6), .val (.int ((p1 &&& (15 : Int32)) + (1 : Int32))), .val (.ref b1), .val (.ref b6), .val (.ref b12), .val (.ref b43), .unset, .unset, .unset, .unset, .unset, .unset] [(.ref b6), (.int ((((p2.toUInt32 >>> ((12 : Int32) &&& 31).toUInt32).toInt32) &&& (15 : Int32)) % (3 : Int32))), (.ref b43)])) _
    refine XS.iconst X93.here hx rfl (hb hby at_245) ?_
    show Steps p.tables e below (T93.setTop (mkF m 246 #[.val (.int p1), .val (.int p2), .val (.int p3), .val (.int p4), .val (.int p5), .val (.int p6), .val (.int ((p1 &&& (15 : Int32)) + (1 : Int32))), .val (.ref b1), .val (.ref b6), .val (.ref b12), .val (.ref b43), .unset, .unset, .unset, .unset, .unset, .unset] [(.int (3 : Int32)), (.ref b6), (.int ((((p2.toUInt32 >>> ((12 : Int32) &&& 31).toUInt32).toInt32) &&& (15 : Int32)) % (3 : Int32))), (.ref b43)])) _
    refine X93.iaload hx (j := (3 : Int32)) (v := (.int ((p6 &&& (2147483647 : Int32)) % ((p1 &&& (15 : Int32)) + (1 : Int32))))) (by exact A97.1) (State.isArrayOf_alike hZ.alike A97.2.1) A97.2.2 hin97 hat97 (g := (mkF m 246 #[.val (.int p1), .val (.int p2), .val (.int p3), .val (.int p4), .val (.int p5), .val (.int p6), .val (.int ((p1 &&& (15 : Int32)) + (1 : Int32))), .val (.ref b1), .val (.ref b6), .val (.ref b12), .val (.ref b43), .unset, .unset, .unset, .unset, .unset, .unset] [(.int (3 : Int32)), (.ref b6), (.int ((((p2.toUInt32 >>> ((12 : Int32) &&& 31).toUInt32).toInt32) &&& (15 : Int32)) % (3 : Int32))), (.ref b43)])) rfl rfl (hb hby at_246) _ ?_
    show Steps p.tables e below (T93.setTop (mkF m 247 #[.val (.int p1), .val (.int p2), .val (.int p3), .val (.int p4), .val (.int p5), .val (.int p6), .val (.int ((p1 &&& (15 : Int32)) + (1 : Int32))), .val (.ref b1), .val (.ref b6), .val (.ref b12), .val (.ref b43), .unset, .unset, .unset, .unset, .unset, .unset] [(.int ((p6 &&& (2147483647 : Int32)) % ((p1 &&& (15 : Int32)) + (1 : Int32)))), (.int ((((p2.toUInt32 >>> ((12 : Int32) &&& 31).toUInt32).toInt32) &&& (15 : Int32)) % (3 : Int32))), (.ref b43)])) _
    refine st100.trans ?_
    show Steps p.tables e below (T100.setTop (mkF m 250 #[.val (.int p1), .val (.int p2), .val (.int p3), .val (.int p4), .val (.int p5), .val (.int p6), .val (.int ((p1 &&& (15 : Int32)) + (1 : Int32))), .val (.ref b1), .val (.ref b6), .val (.ref b12), .val (.ref b43), .unset, .unset, .unset, .unset, .unset, .unset] [])) _
    refine X100.ldcInt hx hown (mvT hZ (hw _ (List.mem_of_getElem? (i := 1) rfl))) (g := (mkF m 250 #[.val (.int p1), .val (.int p2), .val (.int p3), .val (.int p4), .val (.int p5), .val (.int p6), .val (.int ((p1 &&& (15 : Int32)) + (1 : Int32))), .val (.ref b1), .val (.ref b6), .val (.ref b12), .val (.ref b43), .unset, .unset, .unset, .unset, .unset, .unset] [])) rfl (hb hby at_250) _ ?_
    show Steps p.tables e below (T100.setTop (mkF m 252 #[.val (.int p1), .val (.int p2), .val (.int p3), .val (.int p4), .val (.int p5), .val (.int p6), .val (.int ((p1 &&& (15 : Int32)) + (1 : Int32))), .val (.ref b1), .val (.ref b6), .val (.ref b12), .val (.ref b43), .unset, .unset, .unset, .unset, .unset, .unset] [(.int (2147483647 : Int32))])) _
    refine XS.istore X100.here hx rfl (hb hby at_252) rfl (l' := #[.val (.int p1), .val (.int p2), .val (.int p3), .val (.int p4), .val (.int p5), .val (.int p6), .val (.int ((p1 &&& (15 : Int32)) + (1 : Int32))), .val (.ref b1), .val (.ref b6), .val (.ref b12), .val (.ref b43), .val (.int (2147483647 : Int32)), .unset, .unset, .unset, .unset, .unset]) rfl ?_
    show Steps p.tables e below (T100.setTop (mkF m 254 #[.val (.int p1), .val (.int p2), .val (.int p3), .val (.int p4), .val (.int p5), .val (.int p6), .val (.int ((p1 &&& (15 : Int32)) + (1 : Int32))), .val (.ref b1), .val (.ref b6), .val (.ref b12), .val (.ref b43), .val (.int (2147483647 : Int32)), .unset, .unset, .unset, .unset, .unset] [])) _
    refine XS.iconst X100.here hx rfl (hb hby at_254) ?_
    show Steps p.tables e below (T100.setTop (mkF m 255 #[.val (.int p1), .val (.int p2), .val (.int p3), .val (.int p4), .val (.int p5), .val (.int p6), .val (.int ((p1 &&& (15 : Int32)) + (1 : Int32))), .val (.ref b1), .val (.ref b6), .val (.ref b12), .val (.ref b43), .val (.int (2147483647 : Int32)), .unset, .unset, .unset, .unset, .unset] [(.int (0 : Int32))])) _
    refine XS.istore X100.here hx rfl (hb hby at_255) rfl (l' := #[.val (.int p1), .val (.int p2), .val (.int p3), .val (.int p4), .val (.int p5), .val (.int p6), .val (.int ((p1 &&& (15 : Int32)) + (1 : Int32))), .val (.ref b1), .val (.ref b6), .val (.ref b12), .val (.ref b43), .val (.int (2147483647 : Int32)), .val (.int (0 : Int32)), .unset, .unset, .unset, .unset]) rfl ?_
    show Steps p.tables e below (T100.setTop (mkF m 257 #[.val (.int p1), .val (.int p2), .val (.int p3), .val (.int p4), .val (.int p5), .val (.int p6), .val (.int ((p1 &&& (15 : Int32)) + (1 : Int32))), .val (.ref b1), .val (.ref b6), .val (.ref b12), .val (.ref b43), .val (.int (2147483647 : Int32)), .val (.int (0 : Int32)), .unset, .unset, .unset, .unset] [])) _
    refine XS.iload X100.here hx rfl (hb hby at_257) rfl ?_
    show Steps p.tables e below (T100.setTop (mkF m 259 #[.val (.int p1), .val (.int p2), .val (.int p3), .val (.int p4), .val (.int p5), .val (.int p6), .val (.int ((p1 &&& (15 : Int32)) + (1 : Int32))), .val (.ref b1), .val (.ref b6), .val (.ref b12), .val (.ref b43), .val (.int (2147483647 : Int32)), .val (.int (0 : Int32)), .unset, .unset, .unset, .unset] [(.int (2147483647 : Int32))])) _
    refine XS.istore X100.here hx rfl (hb hby at_259) rfl (l' := #[.val (.int p1), .val (.int p2), .val (.int p3), .val (.int p4), .val (.int p5), .val (.int p6), .val (.int ((p1 &&& (15 : Int32)) + (1 : Int32))), .val (.ref b1), .val (.ref b6), .val (.ref b12), .val (.ref b43), .val (.int (2147483647 : Int32)), .val (.int (0 : Int32)), .val (.int (2147483647 : Int32)), .unset, .unset, .unset]) rfl ?_
    show Steps p.tables e below (T100.setTop (mkF m 261 #[.val (.int p1), .val (.int p2), .val (.int p3), .val (.int p4), .val (.int p5), .val (.int p6), .val (.int ((p1 &&& (15 : Int32)) + (1 : Int32))), .val (.ref b1), .val (.ref b6), .val (.ref b12), .val (.ref b43), .val (.int (2147483647 : Int32)), .val (.int (0 : Int32)), .val (.int (2147483647 : Int32)), .unset, .unset, .unset] [])) _
    refine XS.iload X100.here hx rfl (hb hby at_261) rfl ?_
    show Steps p.tables e below (T100.setTop (mkF m 263 #[.val (.int p1), .val (.int p2), .val (.int p3), .val (.int p4), .val (.int p5), .val (.int p6), .val (.int ((p1 &&& (15 : Int32)) + (1 : Int32))), .val (.ref b1), .val (.ref b6), .val (.ref b12), .val (.ref b43), .val (.int (2147483647 : Int32)), .val (.int (0 : Int32)), .val (.int (2147483647 : Int32)), .unset, .unset, .unset] [(.int (2147483647 : Int32))])) _
    refine XS.istore X100.here hx rfl (hb hby at_263) rfl (l' := #[.val (.int p1), .val (.int p2), .val (.int p3), .val (.int p4), .val (.int p5), .val (.int p6), .val (.int ((p1 &&& (15 : Int32)) + (1 : Int32))), .val (.ref b1), .val (.ref b6), .val (.ref b12), .val (.ref b43), .val (.int (2147483647 : Int32)), .val (.int (0 : Int32)), .val (.int (2147483647 : Int32)), .val (.int (2147483647 : Int32)), .unset, .unset]) rfl ?_
    show Steps p.tables e below (T100.setTop (mkF m 265 #[.val (.int p1), .val (.int p2), .val (.int p3), .val (.int p4), .val (.int p5), .val (.int p6), .val (.int ((p1 &&& (15 : Int32)) + (1 : Int32))), .val (.ref b1), .val (.ref b6), .val (.ref b12), .val (.ref b43), .val (.int (2147483647 : Int32)), .val (.int (0 : Int32)), .val (.int (2147483647 : Int32)), .val (.int (2147483647 : Int32)), .unset, .unset] [])) _
    refine XS.iload X100.here hx rfl (hb hby at_265) rfl ?_
    show Steps p.tables e below (T100.setTop (mkF m 267 #[.val (.int p1), .val (.int p2), .val (.int p3), .val (.int p4), .val (.int p5), .val (.int p6), .val (.int ((p1 &&& (15 : Int32)) + (1 : Int32))), .val (.ref b1), .val (.ref b6), .val (.ref b12), .val (.ref b43), .val (.int (2147483647 : Int32)), .val (.int (0 : Int32)), .val (.int (2147483647 : Int32)), .val (.int (2147483647 : Int32)), .unset, .unset] [(.int (2147483647 : Int32))])) _
    refine XS.istore X100.here hx rfl (hb hby at_267) rfl (l' := #[.val (.int p1), .val (.int p2), .val (.int p3), .val (.int p4), .val (.int p5), .val (.int p6), .val (.int ((p1 &&& (15 : Int32)) + (1 : Int32))), .val (.ref b1), .val (.ref b6), .val (.ref b12), .val (.ref b43), .val (.int (2147483647 : Int32)), .val (.int (0 : Int32)), .val (.int (2147483647 : Int32)), .val (.int (2147483647 : Int32)), .val (.int (2147483647 : Int32)), .unset]) rfl ?_
    show Steps p.tables e below (T100.setTop (mkF m 269 #[.val (.int p1), .val (.int p2), .val (.int p3), .val (.int p4), .val (.int p5), .val (.int p6), .val (.int ((p1 &&& (15 : Int32)) + (1 : Int32))), .val (.ref b1), .val (.ref b6), .val (.ref b12), .val (.ref b43), .val (.int (2147483647 : Int32)), .val (.int (0 : Int32)), .val (.int (2147483647 : Int32)), .val (.int (2147483647 : Int32)), .val (.int (2147483647 : Int32)), .unset] [])) _
    refine XS.aload X100.here hx rfl (hb hby at_269) rfl rfl ?_
    show Steps p.tables e below (T100.setTop (mkF m 271 #[.val (.int p1), .val (.int p2), .val (.int p3), .val (.int p4), .val (.int p5), .val (.int p6), .val (.int ((p1 &&& (15 : Int32)) + (1 : Int32))), .val (.ref b1), .val (.ref b6), .val (.ref b12), .val (.ref b43), .val (.int (2147483647 : Int32)), .val (.int (0 : Int32)), .val (.int (2147483647 : Int32)), .val (.int (2147483647 : Int32)), .val (.int (2147483647 : Int32)), .unset] [(.ref b12)])) _
    refine XS.iconst X100.here hx rfl (hb hby at_271) ?_
    show Steps p.tables e below (T100.setTop (mkF m 272 #[.val (.int p1), .val (.int p2), .val (.int p3), .val (.int p4), .val (.int p5), .val (.int p6), .val (.int ((p1 &&& (15 : Int32)) + (1 : Int32))), .val (.ref b1), .val (.ref b6), .val (.ref b12), .val (.ref b43), .val (.int (2147483647 : Int32)), .val (.int (0 : Int32)), .val (.int (2147483647 : Int32)), .val (.int (2147483647 : Int32)), .val (.int (2147483647 : Int32)), .unset] [(.int (0 : Int32)), (.ref b12)])) _
    refine X100.iaload hx (j := (0 : Int32)) (v := (.int (ef ((0 : Int32)).toNatClampNeg))) (by exact A103.1) (State.isArrayOf_alike hZ.alike A103.2.1) A103.2.2 hin103 hat103 (g := (mkF m 272 #[.val (.int p1), .val (.int p2), .val (.int p3), .val (.int p4), .val (.int p5), .val (.int p6), .val (.int ((p1 &&& (15 : Int32)) + (1 : Int32))), .val (.ref b1), .val (.ref b6), .val (.ref b12), .val (.ref b43), .val (.int (2147483647 : Int32)), .val (.int (0 : Int32)), .val (.int (2147483647 : Int32)), .val (.int (2147483647 : Int32)), .val (.int (2147483647 : Int32)), .unset] [(.int (0 : Int32)), (.ref b12)])) rfl rfl (hb hby at_272) _ ?_
    exact k)
  have pre105 : ∀ t, Steps p.tables e below (T100.setTop (mkF m 285 #[.val (.int p1), .val (.int p2), .val (.int p3), .val (.int p4), .val (.int p5), .val (.int p6), .val (.int ((p1 &&& (15 : Int32)) + (1 : Int32))), .val (.ref b1), .val (.ref b6), .val (.ref b12), .val (.ref b43), .val (.int (2147483647 : Int32)), .val (.int (m0_105_0 ef)), .val (.int (m0_105_1 ef)), .val (.int (2147483647 : Int32)), .val (.int (2147483647 : Int32)), .unset] [])) t → Steps p.tables e below (s₁.setTop (entryFrame m #[(.int p1), (.int p2), (.int p3), (.int p4), (.int p5), (.int p6)] maxLocals)) t := by
    intro t k
    by_cases hc106 : (ef ((0 : Int32)).toNatClampNeg) < (0 : Int32)
    · rw [show (m0_105_0 ef) = (0 : Int32) from by first | (rw [m0_105_0, if_pos hc106]; done) | (simp only [m0_105_0, if_pos hc106]; done) | rfl] at k
      rw [show (m0_105_1 ef) = (2147483647 : Int32) from by first | (rw [m0_105_1, if_pos hc106]; done) | (simp only [m0_105_1, if_pos hc106]; done) | rfl] at k
      refine pre104 t ?_
      show Steps p.tables e below (T100.setTop (mkF m 273 #[.val (.int p1), .val (.int p2), .val (.int p3), .val (.int p4), .val (.int p5), .val (.int p6), .val (.int ((p1 &&& (15 : Int32)) + (1 : Int32))), .val (.ref b1), .val (.ref b6), .val (.ref b12), .val (.ref b43), .val (.int (2147483647 : Int32)), .val (.int (0 : Int32)), .val (.int (2147483647 : Int32)), .val (.int (2147483647 : Int32)), .val (.int (2147483647 : Int32)), .unset] [(.int (ef ((0 : Int32)).toNatClampNeg))])) _
      refine XS.ifYes X100.here hx rfl (pc0 := 273) (pc' := 285) rfl (hb hby at_273) rfl ((if0 _ _).trans (tlt hc106).1) (by decide) (by decide) ?_
      exact k
    · obtain ⟨cl107, A107, S107, M107, G107⟩ := id Ve
      have hin107 : ¬ ((0 : Int32) < 0 ∨ cl107.slots.size ≤ ((0 : Int32)).toNatClampNeg) := inb_of S107 ⟨by decide, by decide⟩
      have hat107 : cl107.slots[((0 : Int32)).toNatClampNeg]? = some (.int (ef ((0 : Int32)).toNatClampNeg)) := AI.at S107 G107 hin107
      rw [show (m0_105_0 ef) = (1 : Int32) from by first | (rw [m0_105_0, if_neg hc106]; done) | (simp only [m0_105_0, if_neg hc106]; done) | rfl] at k
      rw [show (m0_105_1 ef) = (ef ((0 : Int32)).toNatClampNeg) from by first | (rw [m0_105_1, if_neg hc106]; done) | (simp only [m0_105_1, if_neg hc106]; done) | rfl] at k
      refine pre104 t ?_
      show Steps p.tables e below (T100.setTop (mkF m 273 #[.val (.int p1), .val (.int p2), .val (.int p3), .val (.int p4), .val (.int p5), .val (.int p6), .val (.int ((p1 &&& (15 : Int32)) + (1 : Int32))), .val (.ref b1), .val (.ref b6), .val (.ref b12), .val (.ref b43), .val (.int (2147483647 : Int32)), .val (.int (0 : Int32)), .val (.int (2147483647 : Int32)), .val (.int (2147483647 : Int32)), .val (.int (2147483647 : Int32)), .unset] [(.int (ef ((0 : Int32)).toNatClampNeg))])) _
      refine XS.ifNo X100.here hx rfl (hb hby at_273) rfl ((if0 _ _).trans (flt hc106).1) ?_
      show Steps p.tables e below (T100.setTop (mkF m 276 #[.val (.int p1), .val (.int p2), .val (.int p3), .val (.int p4), .val (.int p5), .val (.int p6), .val (.int ((p1 &&& (15 : Int32)) + (1 : Int32))), .val (.ref b1), .val (.ref b6), .val (.ref b12), .val (.ref b43), .val (.int (2147483647 : Int32)), .val (.int (0 : Int32)), .val (.int (2147483647 : Int32)), .val (.int (2147483647 : Int32)), .val (.int (2147483647 : Int32)), .unset] [])) _
      refine XS.aload X100.here hx rfl (hb hby at_276) rfl rfl ?_
      show Steps p.tables e below (T100.setTop (mkF m 278 #[.val (.int p1), .val (.int p2), .val (.int p3), .val (.int p4), .val (.int p5), .val (.int p6), .val (.int ((p1 &&& (15 : Int32)) + (1 : Int32))), .val (.ref b1), .val (.ref b6), .val (.ref b12), .val (.ref b43), .val (.int (2147483647 : Int32)), .val (.int (0 : Int32)), .val (.int (2147483647 : Int32)), .val (.int (2147483647 : Int32)), .val (.int (2147483647 : Int32)), .unset] [(.ref b12)])) _
      refine XS.iconst X100.here hx rfl (hb hby at_278) ?_
      show Steps p.tables e below (T100.setTop (mkF m 279 #[.val (.int p1), .val (.int p2), .val (.int p3), .val (.int p4), .val (.int p5), .val (.int p6), .val (.int ((p1 &&& (15 : Int32)) + (1 : Int32))), .val (.ref b1), .val (.ref b6), .val (.ref b12), .val (.ref b43), .val (.int (2147483647 : Int32)), .val (.int (0 : Int32)), .val (.int (2147483647 : Int32)), .val (.int (2147483647 : Int32)), .val (.int (2147483647 : Int32)), .unset] [(.int (0 : Int32)), (.ref b12)])) _
      refine X100.iaload hx (j := (0 : Int32)) (v := (.int (ef ((0 : Int32)).toNatClampNeg))) (by exact A107.1) (State.isArrayOf_alike hZ.alike A107.2.1) A107.2.2 hin107 hat107 (g := (mkF m 279 #[.val (.int p1), .val (.int p2), .val (.int p3), .val (.int p4), .val (.int p5), .val (.int p6), .val (.int ((p1 &&& (15 : Int32)) + (1 : Int32))), .val (.ref b1), .val (.ref b6), .val (.ref b12), .val (.ref b43), .val (.int (2147483647 : Int32)), .val (.int (0 : Int32)), .val (.int (2147483647 : Int32)), .val (.int (2147483647 : Int32)), .val (.int (2147483647 : Int32)), .unset] [(.int (0 : Int32)), (.ref b12)])) rfl rfl (hb hby at_279) _ ?_
      show Steps p.tables e below (T100.setTop (mkF m 280 #[.val (.int p1), .val (.int p2), .val (.int p3), .val (.int p4), .val (.int p5), .val (.int p6), .val (.int ((p1 &&& (15 : Int32)) + (1 : Int32))), .val (.ref b1), .val (.ref b6), .val (.ref b12), .val (.ref b43), .val (.int (2147483647 : Int32)), .val (.int (0 : Int32)), .val (.int (2147483647 : Int32)), .val (.int (2147483647 : Int32)), .val (.int (2147483647 : Int32)), .unset] [(.int (ef ((0 : Int32)).toNatClampNeg))])) _
      refine XS.istore X100.here hx rfl (hb hby at_280) rfl (l' := #[.val (.int p1), .val (.int p2), .val (.int p3), .val (.int p4), .val (.int p5), .val (.int p6), .val (.int ((p1 &&& (15 : Int32)) + (1 : Int32))), .val (.ref b1), .val (.ref b6), .val (.ref b12), .val (.ref b43), .val (.int (2147483647 : Int32)), .val (.int (0 : Int32)), .val (.int (ef ((0 : Int32)).toNatClampNeg)), .val (.int (2147483647 : Int32)), .val (.int (2147483647 : Int32)), .unset]) rfl ?_
      show Steps p.tables e below (T100.setTop (mkF m 282 #[.val (.int p1), .val (.int p2), .val (.int p3), .val (.int p4), .val (.int p5), .val (.int p6), .val (.int ((p1 &&& (15 : Int32)) + (1 : Int32))), .val (.ref b1), .val (.ref b6), .val (.ref b12), .val (.ref b43), .val (.int (2147483647 : Int32)), .val (.int (0 : Int32)), .val (.int (ef ((0 : Int32)).toNatClampNeg)), .val (.int (2147483647 : Int32)), .val (.int (2147483647 : Int32)), .unset] [])) _
      refine XS.iinc X100.here hx rfl (hb hby at_282) rfl (l' := #[.val (.int p1), .val (.int p2), .val (.int p3), .val (.int p4), .val (.int p5), .val (.int p6), .val (.int ((p1 &&& (15 : Int32)) + (1 : Int32))), .val (.ref b1), .val (.ref b6), .val (.ref b12), .val (.ref b43), .val (.int (2147483647 : Int32)), .val (.int (1 : Int32)), .val (.int (ef ((0 : Int32)).toNatClampNeg)), .val (.int (2147483647 : Int32)), .val (.int (2147483647 : Int32)), .unset]) rfl ?_
      exact k
  obtain ⟨cl108, A108, S108, M108, G108⟩ := id Ve
  have hin108 : ¬ ((1 : Int32) < 0 ∨ cl108.slots.size ≤ ((1 : Int32)).toNatClampNeg) := inb_of S108 ⟨by decide, by decide⟩
  have hat108 : cl108.slots[((1 : Int32)).toNatClampNeg]? = some (.int (ef ((1 : Int32)).toNatClampNeg)) := AI.at S108 G108 hin108
  have pre109 : ∀ t, Steps p.tables e below (T100.setTop (mkF m 289 #[.val (.int p1), .val (.int p2), .val (.int p3), .val (.int p4), .val (.int p5), .val (.int p6), .val (.int ((p1 &&& (15 : Int32)) + (1 : Int32))), .val (.ref b1), .val (.ref b6), .val (.ref b12), .val (.ref b43), .val (.int (2147483647 : Int32)), .val (.int (m0_105_0 ef)), .val (.int (m0_105_1 ef)), .val (.int (2147483647 : Int32)), .val (.int (2147483647 : Int32)), .unset] [(.int (ef ((1 : Int32)).toNatClampNeg))])) t → Steps p.tables e below (s₁.setTop (entryFrame m #[(.int p1), (.int p2), (.int p3), (.int p4), (.int p5), (.int p6)] maxLocals)) t := fun t k => pre105 t (by
    show Steps p.tables e below (T100.setTop (mkF m 285 #[.val (.int p1), .val (.int p2), .val (.int p3), .val (.int p4), .val (.int p5), .val (.int p6), .val (.int ((p1 &&& (15 : Int32)) + (1 : Int32))), .val (.ref b1), .val (.ref b6), .val (.ref b12), .val (.ref b43), .val (.int (2147483647 : Int32)), .val (.int (m0_105_0 ef)), .val (.int (m0_105_1 ef)), .val (.int (2147483647 : Int32)), .val (.int (2147483647 : Int32)), .unset] [])) _
    refine XS.aload X100.here hx rfl (hb hby at_285) rfl rfl ?_
    show Steps p.tables e below (T100.setTop (mkF m 287 #[.val (.int p1), .val (.int p2), .val (.int p3), .val (.int p4), .val (.int p5), .val (.int p6), .val (.int ((p1 &&& (15 : Int32)) + (1 : Int32))), .val (.ref b1), .val (.ref b6), .val (.ref b12), .val (.ref b43), .val (.int (2147483647 : Int32)), .val (.int (m0_105_0 ef)), .val (.int (m0_105_1 ef)), .val (.int (2147483647 : Int32)), .val (.int (2147483647 : Int32)), .unset] [(.ref b12)])) _
    refine XS.iconst X100.here hx rfl (hb hby at_287) ?_
    show Steps p.tables e below (T100.setTop (mkF m 288 #[.val (.int p1), .val (.int p2), .val (.int p3), .val (.int p4), .val (.int p5), .val (.int p6), .val (.int ((p1 &&& (15 : Int32)) + (1 : Int32))), .val (.ref b1), .val (.ref b6), .val (.ref b12), .val (.ref b43), .val (.int (2147483647 : Int32)), .val (.int (m0_105_0 ef)), .val (.int (m0_105_1 ef)), .val (.int (2147483647 : Int32)), .val (.int (2147483647 : Int32)), .unset] [(.int (1 : Int32)), (.ref b12)])) _
    refine X100.iaload hx (j := (1 : Int32)) (v := (.int (ef ((1 : Int32)).toNatClampNeg))) (by exact A108.1) (State.isArrayOf_alike hZ.alike A108.2.1) A108.2.2 hin108 hat108 (g := (mkF m 288 #[.val (.int p1), .val (.int p2), .val (.int p3), .val (.int p4), .val (.int p5), .val (.int p6), .val (.int ((p1 &&& (15 : Int32)) + (1 : Int32))), .val (.ref b1), .val (.ref b6), .val (.ref b12), .val (.ref b43), .val (.int (2147483647 : Int32)), .val (.int (m0_105_0 ef)), .val (.int (m0_105_1 ef)), .val (.int (2147483647 : Int32)), .val (.int (2147483647 : Int32)), .unset] [(.int (1 : Int32)), (.ref b12)])) rfl rfl (hb hby at_288) _ ?_
    exact k)
  have pre110 : ∀ t, Steps p.tables e below (T100.setTop (mkF m 301 #[.val (.int p1), .val (.int p2), .val (.int p3), .val (.int p4), .val (.int p5), .val (.int p6), .val (.int ((p1 &&& (15 : Int32)) + (1 : Int32))), .val (.ref b1), .val (.ref b6), .val (.ref b12), .val (.ref b43), .val (.int (2147483647 : Int32)), .val (.int (m0_110_0 ef)), .val (.int (m0_105_1 ef)), .val (.int (m0_110_1 ef)), .val (.int (2147483647 : Int32)), .unset] [])) t → Steps p.tables e below (s₁.setTop (entryFrame m #[(.int p1), (.int p2), (.int p3), (.int p4), (.int p5), (.int p6)] maxLocals)) t := by
    intro t k
    by_cases hc111 : (ef ((1 : Int32)).toNatClampNeg) < (0 : Int32)
    · rw [show (m0_110_0 ef) = (m0_105_0 ef) from by first | (rw [m0_110_0, if_pos hc111]; done) | (simp only [m0_110_0, if_pos hc111]; done) | rfl] at k
      rw [show (m0_110_1 ef) = (2147483647 : Int32) from by first | (rw [m0_110_1, if_pos hc111]; done) | (simp only [m0_110_1, if_pos hc111]; done) | rfl] at k
      refine pre109 t ?_
      show Steps p.tables e below (T100.setTop (mkF m 289 #[.val (.int p1), .val (.int p2), .val (.int p3), .val (.int p4), .val (.int p5), .val (.int p6), .val (.int ((p1 &&& (15 : Int32)) + (1 : Int32))), .val (.ref b1), .val (.ref b6), .val (.ref b12), .val (.ref b43), .val (.int (2147483647 : Int32)), .val (.int (m0_105_0 ef)), .val (.int (m0_105_1 ef)), .val (.int (2147483647 : Int32)), .val (.int (2147483647 : Int32)), .unset] [(.int (ef ((1 : Int32)).toNatClampNeg))])) _
      refine XS.ifYes X100.here hx rfl (pc0 := 289) (pc' := 301) rfl (hb hby at_289) rfl ((if0 _ _).trans (tlt hc111).1) (by decide) (by decide) ?_
      exact k
    · obtain ⟨cl112, A112, S112, M112, G112⟩ := id Ve
      have hin112 : ¬ ((1 : Int32) < 0 ∨ cl112.slots.size ≤ ((1 : Int32)).toNatClampNeg) := inb_of S112 ⟨by decide, by decide⟩
      have hat112 : cl112.slots[((1 : Int32)).toNatClampNeg]? = some (.int (ef ((1 : Int32)).toNatClampNeg)) := AI.at S112 G112 hin112
      rw [show (m0_110_0 ef) = ((m0_105_0 ef) + (1 : Int32)) from by first | (rw [m0_110_0, if_neg hc111]; done) | (simp only [m0_110_0, if_neg hc111]; done) | rfl] at k
      rw [show (m0_110_1 ef) = (ef ((1 : Int32)).toNatClampNeg) from by first | (rw [m0_110_1, if_neg hc111]; done) | (simp only [m0_110_1, if_neg hc111]; done) | rfl] at k
      refine pre109 t ?_
      show Steps p.tables e below (T100.setTop (mkF m 289 #[.val (.int p1), .val (.int p2), .val (.int p3), .val (.int p4), .val (.int p5), .val (.int p6), .val (.int ((p1 &&& (15 : Int32)) + (1 : Int32))), .val (.ref b1), .val (.ref b6), .val (.ref b12), .val (.ref b43), .val (.int (2147483647 : Int32)), .val (.int (m0_105_0 ef)), .val (.int (m0_105_1 ef)), .val (.int (2147483647 : Int32)), .val (.int (2147483647 : Int32)), .unset] [(.int (ef ((1 : Int32)).toNatClampNeg))])) _
      refine XS.ifNo X100.here hx rfl (hb hby at_289) rfl ((if0 _ _).trans (flt hc111).1) ?_
      show Steps p.tables e below (T100.setTop (mkF m 292 #[.val (.int p1), .val (.int p2), .val (.int p3), .val (.int p4), .val (.int p5), .val (.int p6), .val (.int ((p1 &&& (15 : Int32)) + (1 : Int32))), .val (.ref b1), .val (.ref b6), .val (.ref b12), .val (.ref b43), .val (.int (2147483647 : Int32)), .val (.int (m0_105_0 ef)), .val (.int (m0_105_1 ef)), .val (.int (2147483647 : Int32)), .val (.int (2147483647 : Int32)), .unset] [])) _
      refine XS.aload X100.here hx rfl (hb hby at_292) rfl rfl ?_
      show Steps p.tables e below (T100.setTop (mkF m 294 #[.val (.int p1), .val (.int p2), .val (.int p3), .val (.int p4), .val (.int p5), .val (.int p6), .val (.int ((p1 &&& (15 : Int32)) + (1 : Int32))), .val (.ref b1), .val (.ref b6), .val (.ref b12), .val (.ref b43), .val (.int (2147483647 : Int32)), .val (.int (m0_105_0 ef)), .val (.int (m0_105_1 ef)), .val (.int (2147483647 : Int32)), .val (.int (2147483647 : Int32)), .unset] [(.ref b12)])) _
      refine XS.iconst X100.here hx rfl (hb hby at_294) ?_
      show Steps p.tables e below (T100.setTop (mkF m 295 #[.val (.int p1), .val (.int p2), .val (.int p3), .val (.int p4), .val (.int p5), .val (.int p6), .val (.int ((p1 &&& (15 : Int32)) + (1 : Int32))), .val (.ref b1), .val (.ref b6), .val (.ref b12), .val (.ref b43), .val (.int (2147483647 : Int32)), .val (.int (m0_105_0 ef)), .val (.int (m0_105_1 ef)), .val (.int (2147483647 : Int32)), .val (.int (2147483647 : Int32)), .unset] [(.int (1 : Int32)), (.ref b12)])) _
      refine X100.iaload hx (j := (1 : Int32)) (v := (.int (ef ((1 : Int32)).toNatClampNeg))) (by exact A112.1) (State.isArrayOf_alike hZ.alike A112.2.1) A112.2.2 hin112 hat112 (g := (mkF m 295 #[.val (.int p1), .val (.int p2), .val (.int p3), .val (.int p4), .val (.int p5), .val (.int p6), .val (.int ((p1 &&& (15 : Int32)) + (1 : Int32))), .val (.ref b1), .val (.ref b6), .val (.ref b12), .val (.ref b43), .val (.int (2147483647 : Int32)), .val (.int (m0_105_0 ef)), .val (.int (m0_105_1 ef)), .val (.int (2147483647 : Int32)), .val (.int (2147483647 : Int32)), .unset] [(.int (1 : Int32)), (.ref b12)])) rfl rfl (hb hby at_295) _ ?_
      show Steps p.tables e below (T100.setTop (mkF m 296 #[.val (.int p1), .val (.int p2), .val (.int p3), .val (.int p4), .val (.int p5), .val (.int p6), .val (.int ((p1 &&& (15 : Int32)) + (1 : Int32))), .val (.ref b1), .val (.ref b6), .val (.ref b12), .val (.ref b43), .val (.int (2147483647 : Int32)), .val (.int (m0_105_0 ef)), .val (.int (m0_105_1 ef)), .val (.int (2147483647 : Int32)), .val (.int (2147483647 : Int32)), .unset] [(.int (ef ((1 : Int32)).toNatClampNeg))])) _
      refine XS.istore X100.here hx rfl (hb hby at_296) rfl (l' := #[.val (.int p1), .val (.int p2), .val (.int p3), .val (.int p4), .val (.int p5), .val (.int p6), .val (.int ((p1 &&& (15 : Int32)) + (1 : Int32))), .val (.ref b1), .val (.ref b6), .val (.ref b12), .val (.ref b43), .val (.int (2147483647 : Int32)), .val (.int (m0_105_0 ef)), .val (.int (m0_105_1 ef)), .val (.int (ef ((1 : Int32)).toNatClampNeg)), .val (.int (2147483647 : Int32)), .unset]) rfl ?_
      show Steps p.tables e below (T100.setTop (mkF m 298 #[.val (.int p1), .val (.int p2), .val (.int p3), .val (.int p4), .val (.int p5), .val (.int p6), .val (.int ((p1 &&& (15 : Int32)) + (1 : Int32))), .val (.ref b1), .val (.ref b6), .val (.ref b12), .val (.ref b43), .val (.int (2147483647 : Int32)), .val (.int (m0_105_0 ef)), .val (.int (m0_105_1 ef)), .val (.int (ef ((1 : Int32)).toNatClampNeg)), .val (.int (2147483647 : Int32)), .unset] [])) _
      refine XS.iinc X100.here hx rfl (hb hby at_298) rfl (l' := #[.val (.int p1), .val (.int p2), .val (.int p3), .val (.int p4), .val (.int p5), .val (.int p6), .val (.int ((p1 &&& (15 : Int32)) + (1 : Int32))), .val (.ref b1), .val (.ref b6), .val (.ref b12), .val (.ref b43), .val (.int (2147483647 : Int32)), .val (.int ((m0_105_0 ef) + (1 : Int32))), .val (.int (m0_105_1 ef)), .val (.int (ef ((1 : Int32)).toNatClampNeg)), .val (.int (2147483647 : Int32)), .unset]) rfl ?_
      exact k
  obtain ⟨cl113, A113, S113, M113, G113⟩ := id Ve
  have hin113 : ¬ ((2 : Int32) < 0 ∨ cl113.slots.size ≤ ((2 : Int32)).toNatClampNeg) := inb_of S113 ⟨by decide, by decide⟩
  have hat113 : cl113.slots[((2 : Int32)).toNatClampNeg]? = some (.int (ef ((2 : Int32)).toNatClampNeg)) := AI.at S113 G113 hin113
  have pre114 : ∀ t, Steps p.tables e below (T100.setTop (mkF m 305 #[.val (.int p1), .val (.int p2), .val (.int p3), .val (.int p4), .val (.int p5), .val (.int p6), .val (.int ((p1 &&& (15 : Int32)) + (1 : Int32))), .val (.ref b1), .val (.ref b6), .val (.ref b12), .val (.ref b43), .val (.int (2147483647 : Int32)), .val (.int (m0_110_0 ef)), .val (.int (m0_105_1 ef)), .val (.int (m0_110_1 ef)), .val (.int (2147483647 : Int32)), .unset] [(.int (ef ((2 : Int32)).toNatClampNeg))])) t → Steps p.tables e below (s₁.setTop (entryFrame m #[(.int p1), (.int p2), (.int p3), (.int p4), (.int p5), (.int p6)] maxLocals)) t := fun t k => pre110 t (by
    show Steps p.tables e below (T100.setTop (mkF m 301 #[.val (.int p1), .val (.int p2), .val (.int p3), .val (.int p4), .val (.int p5), .val (.int p6), .val (.int ((p1 &&& (15 : Int32)) + (1 : Int32))), .val (.ref b1), .val (.ref b6), .val (.ref b12), .val (.ref b43), .val (.int (2147483647 : Int32)), .val (.int (m0_110_0 ef)), .val (.int (m0_105_1 ef)), .val (.int (m0_110_1 ef)), .val (.int (2147483647 : Int32)), .unset] [])) _
    refine XS.aload X100.here hx rfl (hb hby at_301) rfl rfl ?_
    show Steps p.tables e below (T100.setTop (mkF m 303 #[.val (.int p1), .val (.int p2), .val (.int p3), .val (.int p4), .val (.int p5), .val (.int p6), .val (.int ((p1 &&& (15 : Int32)) + (1 : Int32))), .val (.ref b1), .val (.ref b6), .val (.ref b12), .val (.ref b43), .val (.int (2147483647 : Int32)), .val (.int (m0_110_0 ef)), .val (.int (m0_105_1 ef)), .val (.int (m0_110_1 ef)), .val (.int (2147483647 : Int32)), .unset] [(.ref b12)])) _
    refine XS.iconst X100.here hx rfl (hb hby at_303) ?_
    show Steps p.tables e below (T100.setTop (mkF m 304 #[.val (.int p1), .val (.int p2), .val (.int p3), .val (.int p4), .val (.int p5), .val (.int p6), .val (.int ((p1 &&& (15 : Int32)) + (1 : Int32))), .val (.ref b1), .val (.ref b6), .val (.ref b12), .val (.ref b43), .val (.int (2147483647 : Int32)), .val (.int (m0_110_0 ef)), .val (.int (m0_105_1 ef)), .val (.int (m0_110_1 ef)), .val (.int (2147483647 : Int32)), .unset] [(.int (2 : Int32)), (.ref b12)])) _
    refine X100.iaload hx (j := (2 : Int32)) (v := (.int (ef ((2 : Int32)).toNatClampNeg))) (by exact A113.1) (State.isArrayOf_alike hZ.alike A113.2.1) A113.2.2 hin113 hat113 (g := (mkF m 304 #[.val (.int p1), .val (.int p2), .val (.int p3), .val (.int p4), .val (.int p5), .val (.int p6), .val (.int ((p1 &&& (15 : Int32)) + (1 : Int32))), .val (.ref b1), .val (.ref b6), .val (.ref b12), .val (.ref b43), .val (.int (2147483647 : Int32)), .val (.int (m0_110_0 ef)), .val (.int (m0_105_1 ef)), .val (.int (m0_110_1 ef)), .val (.int (2147483647 : Int32)), .unset] [(.int (2 : Int32)), (.ref b12)])) rfl rfl (hb hby at_304) _ ?_
    exact k)
  have pre115 : ∀ t, Steps p.tables e below (T100.setTop (mkF m 317 #[.val (.int p1), .val (.int p2), .val (.int p3), .val (.int p4), .val (.int p5), .val (.int p6), .val (.int ((p1 &&& (15 : Int32)) + (1 : Int32))), .val (.ref b1), .val (.ref b6), .val (.ref b12), .val (.ref b43), .val (.int (2147483647 : Int32)), .val (.int (m0_115_0 ef)), .val (.int (m0_105_1 ef)), .val (.int (m0_110_1 ef)), .val (.int (m0_115_1 ef)), .unset] [])) t → Steps p.tables e below (s₁.setTop (entryFrame m #[(.int p1), (.int p2), (.int p3), (.int p4), (.int p5), (.int p6)] maxLocals)) t := by
    intro t k
    by_cases hc116 : (ef ((2 : Int32)).toNatClampNeg) < (0 : Int32)
    · rw [show (m0_115_0 ef) = (m0_110_0 ef) from by first | (rw [m0_115_0, if_pos hc116]; done) | (simp only [m0_115_0, if_pos hc116]; done) | rfl] at k
      rw [show (m0_115_1 ef) = (2147483647 : Int32) from by first | (rw [m0_115_1, if_pos hc116]; done) | (simp only [m0_115_1, if_pos hc116]; done) | rfl] at k
      refine pre114 t ?_
      show Steps p.tables e below (T100.setTop (mkF m 305 #[.val (.int p1), .val (.int p2), .val (.int p3), .val (.int p4), .val (.int p5), .val (.int p6), .val (.int ((p1 &&& (15 : Int32)) + (1 : Int32))), .val (.ref b1), .val (.ref b6), .val (.ref b12), .val (.ref b43), .val (.int (2147483647 : Int32)), .val (.int (m0_110_0 ef)), .val (.int (m0_105_1 ef)), .val (.int (m0_110_1 ef)), .val (.int (2147483647 : Int32)), .unset] [(.int (ef ((2 : Int32)).toNatClampNeg))])) _
      refine XS.ifYes X100.here hx rfl (pc0 := 305) (pc' := 317) rfl (hb hby at_305) rfl ((if0 _ _).trans (tlt hc116).1) (by decide) (by decide) ?_
      exact k
    · obtain ⟨cl117, A117, S117, M117, G117⟩ := id Ve
      have hin117 : ¬ ((2 : Int32) < 0 ∨ cl117.slots.size ≤ ((2 : Int32)).toNatClampNeg) := inb_of S117 ⟨by decide, by decide⟩
      have hat117 : cl117.slots[((2 : Int32)).toNatClampNeg]? = some (.int (ef ((2 : Int32)).toNatClampNeg)) := AI.at S117 G117 hin117
      rw [show (m0_115_0 ef) = ((m0_110_0 ef) + (1 : Int32)) from by first | (rw [m0_115_0, if_neg hc116]; done) | (simp only [m0_115_0, if_neg hc116]; done) | rfl] at k
      rw [show (m0_115_1 ef) = (ef ((2 : Int32)).toNatClampNeg) from by first | (rw [m0_115_1, if_neg hc116]; done) | (simp only [m0_115_1, if_neg hc116]; done) | rfl] at k
      refine pre114 t ?_
      show Steps p.tables e below (T100.setTop (mkF m 305 #[.val (.int p1), .val (.int p2), .val (.int p3), .val (.int p4), .val (.int p5), .val (.int p6), .val (.int ((p1 &&& (15 : Int32)) + (1 : Int32))), .val (.ref b1), .val (.ref b6), .val (.ref b12), .val (.ref b43), .val (.int (2147483647 : Int32)), .val (.int (m0_110_0 ef)), .val (.int (m0_105_1 ef)), .val (.int (m0_110_1 ef)), .val (.int (2147483647 : Int32)), .unset] [(.int (ef ((2 : Int32)).toNatClampNeg))])) _
      refine XS.ifNo X100.here hx rfl (hb hby at_305) rfl ((if0 _ _).trans (flt hc116).1) ?_
      show Steps p.tables e below (T100.setTop (mkF m 308 #[.val (.int p1), .val (.int p2), .val (.int p3), .val (.int p4), .val (.int p5), .val (.int p6), .val (.int ((p1 &&& (15 : Int32)) + (1 : Int32))), .val (.ref b1), .val (.ref b6), .val (.ref b12), .val (.ref b43), .val (.int (2147483647 : Int32)), .val (.int (m0_110_0 ef)), .val (.int (m0_105_1 ef)), .val (.int (m0_110_1 ef)), .val (.int (2147483647 : Int32)), .unset] [])) _
      refine XS.aload X100.here hx rfl (hb hby at_308) rfl rfl ?_
      show Steps p.tables e below (T100.setTop (mkF m 310 #[.val (.int p1), .val (.int p2), .val (.int p3), .val (.int p4), .val (.int p5), .val (.int p6), .val (.int ((p1 &&& (15 : Int32)) + (1 : Int32))), .val (.ref b1), .val (.ref b6), .val (.ref b12), .val (.ref b43), .val (.int (2147483647 : Int32)), .val (.int (m0_110_0 ef)), .val (.int (m0_105_1 ef)), .val (.int (m0_110_1 ef)), .val (.int (2147483647 : Int32)), .unset] [(.ref b12)])) _
      refine XS.iconst X100.here hx rfl (hb hby at_310) ?_
      show Steps p.tables e below (T100.setTop (mkF m 311 #[.val (.int p1), .val (.int p2), .val (.int p3), .val (.int p4), .val (.int p5), .val (.int p6), .val (.int ((p1 &&& (15 : Int32)) + (1 : Int32))), .val (.ref b1), .val (.ref b6), .val (.ref b12), .val (.ref b43), .val (.int (2147483647 : Int32)), .val (.int (m0_110_0 ef)), .val (.int (m0_105_1 ef)), .val (.int (m0_110_1 ef)), .val (.int (2147483647 : Int32)), .unset] [(.int (2 : Int32)), (.ref b12)])) _
      refine X100.iaload hx (j := (2 : Int32)) (v := (.int (ef ((2 : Int32)).toNatClampNeg))) (by exact A117.1) (State.isArrayOf_alike hZ.alike A117.2.1) A117.2.2 hin117 hat117 (g := (mkF m 311 #[.val (.int p1), .val (.int p2), .val (.int p3), .val (.int p4), .val (.int p5), .val (.int p6), .val (.int ((p1 &&& (15 : Int32)) + (1 : Int32))), .val (.ref b1), .val (.ref b6), .val (.ref b12), .val (.ref b43), .val (.int (2147483647 : Int32)), .val (.int (m0_110_0 ef)), .val (.int (m0_105_1 ef)), .val (.int (m0_110_1 ef)), .val (.int (2147483647 : Int32)), .unset] [(.int (2 : Int32)), (.ref b12)])) rfl rfl (hb hby at_311) _ ?_
      show Steps p.tables e below (T100.setTop (mkF m 312 #[.val (.int p1), .val (.int p2), .val (.int p3), .val (.int p4), .val (.int p5), .val (.int p6), .val (.int ((p1 &&& (15 : Int32)) + (1 : Int32))), .val (.ref b1), .val (.ref b6), .val (.ref b12), .val (.ref b43), .val (.int (2147483647 : Int32)), .val (.int (m0_110_0 ef)), .val (.int (m0_105_1 ef)), .val (.int (m0_110_1 ef)), .val (.int (2147483647 : Int32)), .unset] [(.int (ef ((2 : Int32)).toNatClampNeg))])) _
      refine XS.istore X100.here hx rfl (hb hby at_312) rfl (l' := #[.val (.int p1), .val (.int p2), .val (.int p3), .val (.int p4), .val (.int p5), .val (.int p6), .val (.int ((p1 &&& (15 : Int32)) + (1 : Int32))), .val (.ref b1), .val (.ref b6), .val (.ref b12), .val (.ref b43), .val (.int (2147483647 : Int32)), .val (.int (m0_110_0 ef)), .val (.int (m0_105_1 ef)), .val (.int (m0_110_1 ef)), .val (.int (ef ((2 : Int32)).toNatClampNeg)), .unset]) rfl ?_
      show Steps p.tables e below (T100.setTop (mkF m 314 #[.val (.int p1), .val (.int p2), .val (.int p3), .val (.int p4), .val (.int p5), .val (.int p6), .val (.int ((p1 &&& (15 : Int32)) + (1 : Int32))), .val (.ref b1), .val (.ref b6), .val (.ref b12), .val (.ref b43), .val (.int (2147483647 : Int32)), .val (.int (m0_110_0 ef)), .val (.int (m0_105_1 ef)), .val (.int (m0_110_1 ef)), .val (.int (ef ((2 : Int32)).toNatClampNeg)), .unset] [])) _
      refine XS.iinc X100.here hx rfl (hb hby at_314) rfl (l' := #[.val (.int p1), .val (.int p2), .val (.int p3), .val (.int p4), .val (.int p5), .val (.int p6), .val (.int ((p1 &&& (15 : Int32)) + (1 : Int32))), .val (.ref b1), .val (.ref b6), .val (.ref b12), .val (.ref b43), .val (.int (2147483647 : Int32)), .val (.int ((m0_110_0 ef) + (1 : Int32))), .val (.int (m0_105_1 ef)), .val (.int (m0_110_1 ef)), .val (.int (ef ((2 : Int32)).toNatClampNeg)), .unset]) rfl ?_
      exact k
  have pre118 : ∀ t, Steps p.tables e below (T100.setTop (mkF m 321 #[.val (.int p1), .val (.int p2), .val (.int p3), .val (.int p4), .val (.int p5), .val (.int p6), .val (.int ((p1 &&& (15 : Int32)) + (1 : Int32))), .val (.ref b1), .val (.ref b6), .val (.ref b12), .val (.ref b43), .val (.int (2147483647 : Int32)), .val (.int (m0_115_0 ef)), .val (.int (m0_105_1 ef)), .val (.int (m0_110_1 ef)), .val (.int (m0_115_1 ef)), .unset] [(.int (m0_110_1 ef)), (.int (m0_105_1 ef))])) t → Steps p.tables e below (s₁.setTop (entryFrame m #[(.int p1), (.int p2), (.int p3), (.int p4), (.int p5), (.int p6)] maxLocals)) t := fun t k => pre115 t (by
    show Steps p.tables e below (T100.setTop (mkF m 317 #[.val (.int p1), .val (.int p2), .val (.int p3), .val (.int p4), .val (.int p5), .val (.int p6), .val (.int ((p1 &&& (15 : Int32)) + (1 : Int32))), .val (.ref b1), .val (.ref b6), .val (.ref b12), .val (.ref b43), .val (.int (2147483647 : Int32)), .val (.int (m0_115_0 ef)), .val (.int (m0_105_1 ef)), .val (.int (m0_110_1 ef)), .val (.int (m0_115_1 ef)), .unset] [])) _
    refine XS.iload X100.here hx rfl (hb hby at_317) rfl ?_
    show Steps p.tables e below (T100.setTop (mkF m 319 #[.val (.int p1), .val (.int p2), .val (.int p3), .val (.int p4), .val (.int p5), .val (.int p6), .val (.int ((p1 &&& (15 : Int32)) + (1 : Int32))), .val (.ref b1), .val (.ref b6), .val (.ref b12), .val (.ref b43), .val (.int (2147483647 : Int32)), .val (.int (m0_115_0 ef)), .val (.int (m0_105_1 ef)), .val (.int (m0_110_1 ef)), .val (.int (m0_115_1 ef)), .unset] [(.int (m0_105_1 ef))])) _
    refine XS.iload X100.here hx rfl (hb hby at_319) rfl ?_
    exact k)
  have pre119 : ∀ t, Steps p.tables e below (T100.setTop (mkF m 336 #[.val (.int p1), .val (.int p2), .val (.int p3), .val (.int p4), .val (.int p5), .val (.int p6), .val (.int ((p1 &&& (15 : Int32)) + (1 : Int32))), .val (.ref b1), .val (.ref b6), .val (.ref b12), .val (.ref b43), .val (.int (2147483647 : Int32)), .val (.int (m0_115_0 ef)), .val (.int (m0_119_0 ef)), .val (.int (m0_119_1 ef)), .val (.int (m0_115_1 ef)), (m0_119_2 ef)] [])) t → Steps p.tables e below (s₁.setTop (entryFrame m #[(.int p1), (.int p2), (.int p3), (.int p4), (.int p5), (.int p6)] maxLocals)) t := by
    intro t k
    by_cases hc120 : (m0_110_1 ef) < (m0_105_1 ef)
    · rw [show (m0_119_0 ef) = (m0_110_1 ef) from by first | (rw [m0_119_0, if_pos hc120]; done) | (simp only [m0_119_0, if_pos hc120]; done) | rfl] at k
      rw [show (m0_119_1 ef) = (m0_105_1 ef) from by first | (rw [m0_119_1, if_pos hc120]; done) | (simp only [m0_119_1, if_pos hc120]; done) | rfl] at k
      rw [show (m0_119_2 ef) = .val (.int (m0_105_1 ef)) from by first | (rw [m0_119_2, if_pos hc120]; done) | (simp only [m0_119_2, if_pos hc120]; done) | rfl] at k
      refine pre118 t ?_
      show Steps p.tables e below (T100.setTop (mkF m 321 #[.val (.int p1), .val (.int p2), .val (.int p3), .val (.int p4), .val (.int p5), .val (.int p6), .val (.int ((p1 &&& (15 : Int32)) + (1 : Int32))), .val (.ref b1), .val (.ref b6), .val (.ref b12), .val (.ref b43), .val (.int (2147483647 : Int32)), .val (.int (m0_115_0 ef)), .val (.int (m0_105_1 ef)), .val (.int (m0_110_1 ef)), .val (.int (m0_115_1 ef)), .unset] [(.int (m0_110_1 ef)), (.int (m0_105_1 ef))])) _
      refine XS.icmpNo X100.here hx rfl (hb hby at_321) rfl (tlt hc120).2.2.2 ?_
      show Steps p.tables e below (T100.setTop (mkF m 324 #[.val (.int p1), .val (.int p2), .val (.int p3), .val (.int p4), .val (.int p5), .val (.int p6), .val (.int ((p1 &&& (15 : Int32)) + (1 : Int32))), .val (.ref b1), .val (.ref b6), .val (.ref b12), .val (.ref b43), .val (.int (2147483647 : Int32)), .val (.int (m0_115_0 ef)), .val (.int (m0_105_1 ef)), .val (.int (m0_110_1 ef)), .val (.int (m0_115_1 ef)), .unset] [])) _
      refine XS.iload X100.here hx rfl (hb hby at_324) rfl ?_
      show Steps p.tables e below (T100.setTop (mkF m 326 #[.val (.int p1), .val (.int p2), .val (.int p3), .val (.int p4), .val (.int p5), .val (.int p6), .val (.int ((p1 &&& (15 : Int32)) + (1 : Int32))), .val (.ref b1), .val (.ref b6), .val (.ref b12), .val (.ref b43), .val (.int (2147483647 : Int32)), .val (.int (m0_115_0 ef)), .val (.int (m0_105_1 ef)), .val (.int (m0_110_1 ef)), .val (.int (m0_115_1 ef)), .unset] [(.int (m0_105_1 ef))])) _
      refine XS.istore X100.here hx rfl (hb hby at_326) rfl (l' := #[.val (.int p1), .val (.int p2), .val (.int p3), .val (.int p4), .val (.int p5), .val (.int p6), .val (.int ((p1 &&& (15 : Int32)) + (1 : Int32))), .val (.ref b1), .val (.ref b6), .val (.ref b12), .val (.ref b43), .val (.int (2147483647 : Int32)), .val (.int (m0_115_0 ef)), .val (.int (m0_105_1 ef)), .val (.int (m0_110_1 ef)), .val (.int (m0_115_1 ef)), .val (.int (m0_105_1 ef))]) rfl ?_
      show Steps p.tables e below (T100.setTop (mkF m 328 #[.val (.int p1), .val (.int p2), .val (.int p3), .val (.int p4), .val (.int p5), .val (.int p6), .val (.int ((p1 &&& (15 : Int32)) + (1 : Int32))), .val (.ref b1), .val (.ref b6), .val (.ref b12), .val (.ref b43), .val (.int (2147483647 : Int32)), .val (.int (m0_115_0 ef)), .val (.int (m0_105_1 ef)), .val (.int (m0_110_1 ef)), .val (.int (m0_115_1 ef)), .val (.int (m0_105_1 ef))] [])) _
      refine XS.iload X100.here hx rfl (hb hby at_328) rfl ?_
      show Steps p.tables e below (T100.setTop (mkF m 330 #[.val (.int p1), .val (.int p2), .val (.int p3), .val (.int p4), .val (.int p5), .val (.int p6), .val (.int ((p1 &&& (15 : Int32)) + (1 : Int32))), .val (.ref b1), .val (.ref b6), .val (.ref b12), .val (.ref b43), .val (.int (2147483647 : Int32)), .val (.int (m0_115_0 ef)), .val (.int (m0_105_1 ef)), .val (.int (m0_110_1 ef)), .val (.int (m0_115_1 ef)), .val (.int (m0_105_1 ef))] [(.int (m0_110_1 ef))])) _
      refine XS.istore X100.here hx rfl (hb hby at_330) rfl (l' := #[.val (.int p1), .val (.int p2), .val (.int p3), .val (.int p4), .val (.int p5), .val (.int p6), .val (.int ((p1 &&& (15 : Int32)) + (1 : Int32))), .val (.ref b1), .val (.ref b6), .val (.ref b12), .val (.ref b43), .val (.int (2147483647 : Int32)), .val (.int (m0_115_0 ef)), .val (.int (m0_110_1 ef)), .val (.int (m0_110_1 ef)), .val (.int (m0_115_1 ef)), .val (.int (m0_105_1 ef))]) rfl ?_
      show Steps p.tables e below (T100.setTop (mkF m 332 #[.val (.int p1), .val (.int p2), .val (.int p3), .val (.int p4), .val (.int p5), .val (.int p6), .val (.int ((p1 &&& (15 : Int32)) + (1 : Int32))), .val (.ref b1), .val (.ref b6), .val (.ref b12), .val (.ref b43), .val (.int (2147483647 : Int32)), .val (.int (m0_115_0 ef)), .val (.int (m0_110_1 ef)), .val (.int (m0_110_1 ef)), .val (.int (m0_115_1 ef)), .val (.int (m0_105_1 ef))] [])) _
      refine XS.iload X100.here hx rfl (hb hby at_332) rfl ?_
      show Steps p.tables e below (T100.setTop (mkF m 334 #[.val (.int p1), .val (.int p2), .val (.int p3), .val (.int p4), .val (.int p5), .val (.int p6), .val (.int ((p1 &&& (15 : Int32)) + (1 : Int32))), .val (.ref b1), .val (.ref b6), .val (.ref b12), .val (.ref b43), .val (.int (2147483647 : Int32)), .val (.int (m0_115_0 ef)), .val (.int (m0_110_1 ef)), .val (.int (m0_110_1 ef)), .val (.int (m0_115_1 ef)), .val (.int (m0_105_1 ef))] [(.int (m0_105_1 ef))])) _
      refine XS.istore X100.here hx rfl (hb hby at_334) rfl (l' := #[.val (.int p1), .val (.int p2), .val (.int p3), .val (.int p4), .val (.int p5), .val (.int p6), .val (.int ((p1 &&& (15 : Int32)) + (1 : Int32))), .val (.ref b1), .val (.ref b6), .val (.ref b12), .val (.ref b43), .val (.int (2147483647 : Int32)), .val (.int (m0_115_0 ef)), .val (.int (m0_110_1 ef)), .val (.int (m0_105_1 ef)), .val (.int (m0_115_1 ef)), .val (.int (m0_105_1 ef))]) rfl ?_
      exact k
    · rw [show (m0_119_0 ef) = (m0_105_1 ef) from by first | (rw [m0_119_0, if_neg hc120]; done) | (simp only [m0_119_0, if_neg hc120]; done) | rfl] at k
      rw [show (m0_119_1 ef) = (m0_110_1 ef) from by first | (rw [m0_119_1, if_neg hc120]; done) | (simp only [m0_119_1, if_neg hc120]; done) | rfl] at k
      rw [show (m0_119_2 ef) = .unset from by first | (rw [m0_119_2, if_neg hc120]; done) | (simp only [m0_119_2, if_neg hc120]; done) | rfl] at k
      refine pre118 t ?_
      show Steps p.tables e below (T100.setTop (mkF m 321 #[.val (.int p1), .val (.int p2), .val (.int p3), .val (.int p4), .val (.int p5), .val (.int p6), .val (.int ((p1 &&& (15 : Int32)) + (1 : Int32))), .val (.ref b1), .val (.ref b6), .val (.ref b12), .val (.ref b43), .val (.int (2147483647 : Int32)), .val (.int (m0_115_0 ef)), .val (.int (m0_105_1 ef)), .val (.int (m0_110_1 ef)), .val (.int (m0_115_1 ef)), .unset] [(.int (m0_110_1 ef)), (.int (m0_105_1 ef))])) _
      refine XS.icmpYes X100.here hx rfl (pc0 := 321) (pc' := 336) rfl (hb hby at_321) rfl (flt hc120).2.2.2 (by decide) (by decide) ?_
      exact k
  have pre121 : ∀ t, Steps p.tables e below (T100.setTop (mkF m 340 #[.val (.int p1), .val (.int p2), .val (.int p3), .val (.int p4), .val (.int p5), .val (.int p6), .val (.int ((p1 &&& (15 : Int32)) + (1 : Int32))), .val (.ref b1), .val (.ref b6), .val (.ref b12), .val (.ref b43), .val (.int (2147483647 : Int32)), .val (.int (m0_115_0 ef)), .val (.int (m0_119_0 ef)), .val (.int (m0_119_1 ef)), .val (.int (m0_115_1 ef)), (m0_119_2 ef)] [(.int (m0_115_1 ef)), (.int (m0_119_1 ef))])) t → Steps p.tables e below (s₁.setTop (entryFrame m #[(.int p1), (.int p2), (.int p3), (.int p4), (.int p5), (.int p6)] maxLocals)) t := fun t k => pre119 t (by
    show Steps p.tables e below (T100.setTop (mkF m 336 #[.val (.int p1), .val (.int p2), .val (.int p3), .val (.int p4), .val (.int p5), .val (.int p6), .val (.int ((p1 &&& (15 : Int32)) + (1 : Int32))), .val (.ref b1), .val (.ref b6), .val (.ref b12), .val (.ref b43), .val (.int (2147483647 : Int32)), .val (.int (m0_115_0 ef)), .val (.int (m0_119_0 ef)), .val (.int (m0_119_1 ef)), .val (.int (m0_115_1 ef)), (m0_119_2 ef)] [])) _
    refine XS.iload X100.here hx rfl (hb hby at_336) rfl ?_
    show Steps p.tables e below (T100.setTop (mkF m 338 #[.val (.int p1), .val (.int p2), .val (.int p3), .val (.int p4), .val (.int p5), .val (.int p6), .val (.int ((p1 &&& (15 : Int32)) + (1 : Int32))), .val (.ref b1), .val (.ref b6), .val (.ref b12), .val (.ref b43), .val (.int (2147483647 : Int32)), .val (.int (m0_115_0 ef)), .val (.int (m0_119_0 ef)), .val (.int (m0_119_1 ef)), .val (.int (m0_115_1 ef)), (m0_119_2 ef)] [(.int (m0_119_1 ef))])) _
    refine XS.iload X100.here hx rfl (hb hby at_338) rfl ?_
    exact k)
  have pre122 : ∀ t, Steps p.tables e below (T100.setTop (mkF m 355 #[.val (.int p1), .val (.int p2), .val (.int p3), .val (.int p4), .val (.int p5), .val (.int p6), .val (.int ((p1 &&& (15 : Int32)) + (1 : Int32))), .val (.ref b1), .val (.ref b6), .val (.ref b12), .val (.ref b43), .val (.int (2147483647 : Int32)), .val (.int (m0_115_0 ef)), .val (.int (m0_119_0 ef)), .val (.int (m0_122_0 ef)), .val (.int (m0_122_1 ef)), (m0_122_2 ef)] [])) t → Steps p.tables e below (s₁.setTop (entryFrame m #[(.int p1), (.int p2), (.int p3), (.int p4), (.int p5), (.int p6)] maxLocals)) t := by
    intro t k
    by_cases hc123 : (m0_115_1 ef) < (m0_119_1 ef)
    · rw [show (m0_122_0 ef) = (m0_115_1 ef) from by first | (rw [m0_122_0, if_pos hc123]; done) | (simp only [m0_122_0, if_pos hc123]; done) | rfl] at k
      rw [show (m0_122_1 ef) = (m0_119_1 ef) from by first | (rw [m0_122_1, if_pos hc123]; done) | (simp only [m0_122_1, if_pos hc123]; done) | rfl] at k
      rw [show (m0_122_2 ef) = .val (.int (m0_119_1 ef)) from by first | (rw [m0_122_2, if_pos hc123]; done) | (simp only [m0_122_2, if_pos hc123]; done) | rfl] at k
      refine pre121 t ?_
      show Steps p.tables e below (T100.setTop (mkF m 340 #[.val (.int p1), .val (.int p2), .val (.int p3), .val (.int p4), .val (.int p5), .val (.int p6), .val (.int ((p1 &&& (15 : Int32)) + (1 : Int32))), .val (.ref b1), .val (.ref b6), .val (.ref b12), .val (.ref b43), .val (.int (2147483647 : Int32)), .val (.int (m0_115_0 ef)), .val (.int (m0_119_0 ef)), .val (.int (m0_119_1 ef)), .val (.int (m0_115_1 ef)), (m0_119_2 ef)] [(.int (m0_115_1 ef)), (.int (m0_119_1 ef))])) _
      refine XS.icmpNo X100.here hx rfl (hb hby at_340) rfl (tlt hc123).2.2.2 ?_
      show Steps p.tables e below (T100.setTop (mkF m 343 #[.val (.int p1), .val (.int p2), .val (.int p3), .val (.int p4), .val (.int p5), .val (.int p6), .val (.int ((p1 &&& (15 : Int32)) + (1 : Int32))), .val (.ref b1), .val (.ref b6), .val (.ref b12), .val (.ref b43), .val (.int (2147483647 : Int32)), .val (.int (m0_115_0 ef)), .val (.int (m0_119_0 ef)), .val (.int (m0_119_1 ef)), .val (.int (m0_115_1 ef)), (m0_119_2 ef)] [])) _
      refine XS.iload X100.here hx rfl (hb hby at_343) rfl ?_
      show Steps p.tables e below (T100.setTop (mkF m 345 #[.val (.int p1), .val (.int p2), .val (.int p3), .val (.int p4), .val (.int p5), .val (.int p6), .val (.int ((p1 &&& (15 : Int32)) + (1 : Int32))), .val (.ref b1), .val (.ref b6), .val (.ref b12), .val (.ref b43), .val (.int (2147483647 : Int32)), .val (.int (m0_115_0 ef)), .val (.int (m0_119_0 ef)), .val (.int (m0_119_1 ef)), .val (.int (m0_115_1 ef)), (m0_119_2 ef)] [(.int (m0_119_1 ef))])) _
      refine XS.istore X100.here hx rfl (hb hby at_345) rfl (l' := #[.val (.int p1), .val (.int p2), .val (.int p3), .val (.int p4), .val (.int p5), .val (.int p6), .val (.int ((p1 &&& (15 : Int32)) + (1 : Int32))), .val (.ref b1), .val (.ref b6), .val (.ref b12), .val (.ref b43), .val (.int (2147483647 : Int32)), .val (.int (m0_115_0 ef)), .val (.int (m0_119_0 ef)), .val (.int (m0_119_1 ef)), .val (.int (m0_115_1 ef)), .val (.int (m0_119_1 ef))]) (by rcases (sl_m0_119_2 ef) with h | ⟨_, h⟩ | ⟨_, h⟩ <;> (rw [h]; rfl)) ?_
      show Steps p.tables e below (T100.setTop (mkF m 347 #[.val (.int p1), .val (.int p2), .val (.int p3), .val (.int p4), .val (.int p5), .val (.int p6), .val (.int ((p1 &&& (15 : Int32)) + (1 : Int32))), .val (.ref b1), .val (.ref b6), .val (.ref b12), .val (.ref b43), .val (.int (2147483647 : Int32)), .val (.int (m0_115_0 ef)), .val (.int (m0_119_0 ef)), .val (.int (m0_119_1 ef)), .val (.int (m0_115_1 ef)), .val (.int (m0_119_1 ef))] [])) _
      refine XS.iload X100.here hx rfl (hb hby at_347) rfl ?_
      show Steps p.tables e below (T100.setTop (mkF m 349 #[.val (.int p1), .val (.int p2), .val (.int p3), .val (.int p4), .val (.int p5), .val (.int p6), .val (.int ((p1 &&& (15 : Int32)) + (1 : Int32))), .val (.ref b1), .val (.ref b6), .val (.ref b12), .val (.ref b43), .val (.int (2147483647 : Int32)), .val (.int (m0_115_0 ef)), .val (.int (m0_119_0 ef)), .val (.int (m0_119_1 ef)), .val (.int (m0_115_1 ef)), .val (.int (m0_119_1 ef))] [(.int (m0_115_1 ef))])) _
      refine XS.istore X100.here hx rfl (hb hby at_349) rfl (l' := #[.val (.int p1), .val (.int p2), .val (.int p3), .val (.int p4), .val (.int p5), .val (.int p6), .val (.int ((p1 &&& (15 : Int32)) + (1 : Int32))), .val (.ref b1), .val (.ref b6), .val (.ref b12), .val (.ref b43), .val (.int (2147483647 : Int32)), .val (.int (m0_115_0 ef)), .val (.int (m0_119_0 ef)), .val (.int (m0_115_1 ef)), .val (.int (m0_115_1 ef)), .val (.int (m0_119_1 ef))]) rfl ?_
      show Steps p.tables e below (T100.setTop (mkF m 351 #[.val (.int p1), .val (.int p2), .val (.int p3), .val (.int p4), .val (.int p5), .val (.int p6), .val (.int ((p1 &&& (15 : Int32)) + (1 : Int32))), .val (.ref b1), .val (.ref b6), .val (.ref b12), .val (.ref b43), .val (.int (2147483647 : Int32)), .val (.int (m0_115_0 ef)), .val (.int (m0_119_0 ef)), .val (.int (m0_115_1 ef)), .val (.int (m0_115_1 ef)), .val (.int (m0_119_1 ef))] [])) _
      refine XS.iload X100.here hx rfl (hb hby at_351) rfl ?_
      show Steps p.tables e below (T100.setTop (mkF m 353 #[.val (.int p1), .val (.int p2), .val (.int p3), .val (.int p4), .val (.int p5), .val (.int p6), .val (.int ((p1 &&& (15 : Int32)) + (1 : Int32))), .val (.ref b1), .val (.ref b6), .val (.ref b12), .val (.ref b43), .val (.int (2147483647 : Int32)), .val (.int (m0_115_0 ef)), .val (.int (m0_119_0 ef)), .val (.int (m0_115_1 ef)), .val (.int (m0_115_1 ef)), .val (.int (m0_119_1 ef))] [(.int (m0_119_1 ef))])) _
      refine XS.istore X100.here hx rfl (hb hby at_353) rfl (l' := #[.val (.int p1), .val (.int p2), .val (.int p3), .val (.int p4), .val (.int p5), .val (.int p6), .val (.int ((p1 &&& (15 : Int32)) + (1 : Int32))), .val (.ref b1), .val (.ref b6), .val (.ref b12), .val (.ref b43), .val (.int (2147483647 : Int32)), .val (.int (m0_115_0 ef)), .val (.int (m0_119_0 ef)), .val (.int (m0_115_1 ef)), .val (.int (m0_119_1 ef)), .val (.int (m0_119_1 ef))]) rfl ?_
      exact k
    · rw [show (m0_122_0 ef) = (m0_119_1 ef) from by first | (rw [m0_122_0, if_neg hc123]; done) | (simp only [m0_122_0, if_neg hc123]; done) | rfl] at k
      rw [show (m0_122_1 ef) = (m0_115_1 ef) from by first | (rw [m0_122_1, if_neg hc123]; done) | (simp only [m0_122_1, if_neg hc123]; done) | rfl] at k
      rw [show (m0_122_2 ef) = (m0_119_2 ef) from by first | (rw [m0_122_2, if_neg hc123]; done) | (simp only [m0_122_2, if_neg hc123]; done) | rfl] at k
      refine pre121 t ?_
      show Steps p.tables e below (T100.setTop (mkF m 340 #[.val (.int p1), .val (.int p2), .val (.int p3), .val (.int p4), .val (.int p5), .val (.int p6), .val (.int ((p1 &&& (15 : Int32)) + (1 : Int32))), .val (.ref b1), .val (.ref b6), .val (.ref b12), .val (.ref b43), .val (.int (2147483647 : Int32)), .val (.int (m0_115_0 ef)), .val (.int (m0_119_0 ef)), .val (.int (m0_119_1 ef)), .val (.int (m0_115_1 ef)), (m0_119_2 ef)] [(.int (m0_115_1 ef)), (.int (m0_119_1 ef))])) _
      refine XS.icmpYes X100.here hx rfl (pc0 := 340) (pc' := 355) rfl (hb hby at_340) rfl (flt hc123).2.2.2 (by decide) (by decide) ?_
      exact k
  have pre124 : ∀ t, Steps p.tables e below (T100.setTop (mkF m 359 #[.val (.int p1), .val (.int p2), .val (.int p3), .val (.int p4), .val (.int p5), .val (.int p6), .val (.int ((p1 &&& (15 : Int32)) + (1 : Int32))), .val (.ref b1), .val (.ref b6), .val (.ref b12), .val (.ref b43), .val (.int (2147483647 : Int32)), .val (.int (m0_115_0 ef)), .val (.int (m0_119_0 ef)), .val (.int (m0_122_0 ef)), .val (.int (m0_122_1 ef)), (m0_122_2 ef)] [(.int (m0_122_0 ef)), (.int (m0_119_0 ef))])) t → Steps p.tables e below (s₁.setTop (entryFrame m #[(.int p1), (.int p2), (.int p3), (.int p4), (.int p5), (.int p6)] maxLocals)) t := fun t k => pre122 t (by
    show Steps p.tables e below (T100.setTop (mkF m 355 #[.val (.int p1), .val (.int p2), .val (.int p3), .val (.int p4), .val (.int p5), .val (.int p6), .val (.int ((p1 &&& (15 : Int32)) + (1 : Int32))), .val (.ref b1), .val (.ref b6), .val (.ref b12), .val (.ref b43), .val (.int (2147483647 : Int32)), .val (.int (m0_115_0 ef)), .val (.int (m0_119_0 ef)), .val (.int (m0_122_0 ef)), .val (.int (m0_122_1 ef)), (m0_122_2 ef)] [])) _
    refine XS.iload X100.here hx rfl (hb hby at_355) rfl ?_
    show Steps p.tables e below (T100.setTop (mkF m 357 #[.val (.int p1), .val (.int p2), .val (.int p3), .val (.int p4), .val (.int p5), .val (.int p6), .val (.int ((p1 &&& (15 : Int32)) + (1 : Int32))), .val (.ref b1), .val (.ref b6), .val (.ref b12), .val (.ref b43), .val (.int (2147483647 : Int32)), .val (.int (m0_115_0 ef)), .val (.int (m0_119_0 ef)), .val (.int (m0_122_0 ef)), .val (.int (m0_122_1 ef)), (m0_122_2 ef)] [(.int (m0_119_0 ef))])) _
    refine XS.iload X100.here hx rfl (hb hby at_357) rfl ?_
    exact k)
  have pre125 : ∀ t, Steps p.tables e below (T100.setTop (mkF m 374 #[.val (.int p1), .val (.int p2), .val (.int p3), .val (.int p4), .val (.int p5), .val (.int p6), .val (.int ((p1 &&& (15 : Int32)) + (1 : Int32))), .val (.ref b1), .val (.ref b6), .val (.ref b12), .val (.ref b43), .val (.int (2147483647 : Int32)), .val (.int (m0_115_0 ef)), .val (.int (m0_125_0 ef)), .val (.int (m0_125_1 ef)), .val (.int (m0_122_1 ef)), (m0_125_2 ef)] [])) t → Steps p.tables e below (s₁.setTop (entryFrame m #[(.int p1), (.int p2), (.int p3), (.int p4), (.int p5), (.int p6)] maxLocals)) t := by
    intro t k
    by_cases hc126 : (m0_122_0 ef) < (m0_119_0 ef)
    · rw [show (m0_125_0 ef) = (m0_122_0 ef) from by first | (rw [m0_125_0, if_pos hc126]; done) | (simp only [m0_125_0, if_pos hc126]; done) | rfl] at k
      rw [show (m0_125_1 ef) = (m0_119_0 ef) from by first | (rw [m0_125_1, if_pos hc126]; done) | (simp only [m0_125_1, if_pos hc126]; done) | rfl] at k
      rw [show (m0_125_2 ef) = .val (.int (m0_119_0 ef)) from by first | (rw [m0_125_2, if_pos hc126]; done) | (simp only [m0_125_2, if_pos hc126]; done) | rfl] at k
      refine pre124 t ?_
      show Steps p.tables e below (T100.setTop (mkF m 359 #[.val (.int p1), .val (.int p2), .val (.int p3), .val (.int p4), .val (.int p5), .val (.int p6), .val (.int ((p1 &&& (15 : Int32)) + (1 : Int32))), .val (.ref b1), .val (.ref b6), .val (.ref b12), .val (.ref b43), .val (.int (2147483647 : Int32)), .val (.int (m0_115_0 ef)), .val (.int (m0_119_0 ef)), .val (.int (m0_122_0 ef)), .val (.int (m0_122_1 ef)), (m0_122_2 ef)] [(.int (m0_122_0 ef)), (.int (m0_119_0 ef))])) _
      refine XS.icmpNo X100.here hx rfl (hb hby at_359) rfl (tlt hc126).2.2.2 ?_
      show Steps p.tables e below (T100.setTop (mkF m 362 #[.val (.int p1), .val (.int p2), .val (.int p3), .val (.int p4), .val (.int p5), .val (.int p6), .val (.int ((p1 &&& (15 : Int32)) + (1 : Int32))), .val (.ref b1), .val (.ref b6), .val (.ref b12), .val (.ref b43), .val (.int (2147483647 : Int32)), .val (.int (m0_115_0 ef)), .val (.int (m0_119_0 ef)), .val (.int (m0_122_0 ef)), .val (.int (m0_122_1 ef)), (m0_122_2 ef)] [])) _
      refine XS.iload X100.here hx rfl (hb hby at_362) rfl ?_
      show Steps p.tables e below (T100.setTop (mkF m 364 #[.val (.int p1), .val (.int p2), .val (.int p3), .val (.int p4), .val (.int p5), .val (.int p6), .val (.int ((p1 &&& (15 : Int32)) + (1 : Int32))), .val (.ref b1), .val (.ref b6), .val (.ref b12), .val (.ref b43), .val (.int (2147483647 : Int32)), .val (.int (m0_115_0 ef)), .val (.int (m0_119_0 ef)), .val (.int (m0_122_0 ef)), .val (.int (m0_122_1 ef)), (m0_122_2 ef)] [(.int (m0_119_0 ef))])) _
      refine XS.istore X100.here hx rfl (hb hby at_364) rfl (l' := #[.val (.int p1), .val (.int p2), .val (.int p3), .val (.int p4), .val (.int p5), .val (.int p6), .val (.int ((p1 &&& (15 : Int32)) + (1 : Int32))), .val (.ref b1), .val (.ref b6), .val (.ref b12), .val (.ref b43), .val (.int (2147483647 : Int32)), .val (.int (m0_115_0 ef)), .val (.int (m0_119_0 ef)), .val (.int (m0_122_0 ef)), .val (.int (m0_122_1 ef)), .val (.int (m0_119_0 ef))]) (by rcases (sl_m0_122_2 ef) with h | ⟨_, h⟩ | ⟨_, h⟩ <;> (rw [h]; rfl)) ?_
      show Steps p.tables e below (T100.setTop (mkF m 366 #[.val (.int p1), .val (.int p2), .val (.int p3), .val (.int p4), .val (.int p5), .val (.int p6), .val (.int ((p1 &&& (15 : Int32)) + (1 : Int32))), .val (.ref b1), .val (.ref b6), .val (.ref b12), .val (.ref b43), .val (.int (2147483647 : Int32)), .val (.int (m0_115_0 ef)), .val (.int (m0_119_0 ef)), .val (.int (m0_122_0 ef)), .val (.int (m0_122_1 ef)), .val (.int (m0_119_0 ef))] [])) _
      refine XS.iload X100.here hx rfl (hb hby at_366) rfl ?_
      show Steps p.tables e below (T100.setTop (mkF m 368 #[.val (.int p1), .val (.int p2), .val (.int p3), .val (.int p4), .val (.int p5), .val (.int p6), .val (.int ((p1 &&& (15 : Int32)) + (1 : Int32))), .val (.ref b1), .val (.ref b6), .val (.ref b12), .val (.ref b43), .val (.int (2147483647 : Int32)), .val (.int (m0_115_0 ef)), .val (.int (m0_119_0 ef)), .val (.int (m0_122_0 ef)), .val (.int (m0_122_1 ef)), .val (.int (m0_119_0 ef))] [(.int (m0_122_0 ef))])) _
      refine XS.istore X100.here hx rfl (hb hby at_368) rfl (l' := #[.val (.int p1), .val (.int p2), .val (.int p3), .val (.int p4), .val (.int p5), .val (.int p6), .val (.int ((p1 &&& (15 : Int32)) + (1 : Int32))), .val (.ref b1), .val (.ref b6), .val (.ref b12), .val (.ref b43), .val (.int (2147483647 : Int32)), .val (.int (m0_115_0 ef)), .val (.int (m0_122_0 ef)), .val (.int (m0_122_0 ef)), .val (.int (m0_122_1 ef)), .val (.int (m0_119_0 ef))]) rfl ?_
      show Steps p.tables e below (T100.setTop (mkF m 370 #[.val (.int p1), .val (.int p2), .val (.int p3), .val (.int p4), .val (.int p5), .val (.int p6), .val (.int ((p1 &&& (15 : Int32)) + (1 : Int32))), .val (.ref b1), .val (.ref b6), .val (.ref b12), .val (.ref b43), .val (.int (2147483647 : Int32)), .val (.int (m0_115_0 ef)), .val (.int (m0_122_0 ef)), .val (.int (m0_122_0 ef)), .val (.int (m0_122_1 ef)), .val (.int (m0_119_0 ef))] [])) _
      refine XS.iload X100.here hx rfl (hb hby at_370) rfl ?_
      show Steps p.tables e below (T100.setTop (mkF m 372 #[.val (.int p1), .val (.int p2), .val (.int p3), .val (.int p4), .val (.int p5), .val (.int p6), .val (.int ((p1 &&& (15 : Int32)) + (1 : Int32))), .val (.ref b1), .val (.ref b6), .val (.ref b12), .val (.ref b43), .val (.int (2147483647 : Int32)), .val (.int (m0_115_0 ef)), .val (.int (m0_122_0 ef)), .val (.int (m0_122_0 ef)), .val (.int (m0_122_1 ef)), .val (.int (m0_119_0 ef))] [(.int (m0_119_0 ef))])) _
      refine XS.istore X100.here hx rfl (hb hby at_372) rfl (l' := #[.val (.int p1), .val (.int p2), .val (.int p3), .val (.int p4), .val (.int p5), .val (.int p6), .val (.int ((p1 &&& (15 : Int32)) + (1 : Int32))), .val (.ref b1), .val (.ref b6), .val (.ref b12), .val (.ref b43), .val (.int (2147483647 : Int32)), .val (.int (m0_115_0 ef)), .val (.int (m0_122_0 ef)), .val (.int (m0_119_0 ef)), .val (.int (m0_122_1 ef)), .val (.int (m0_119_0 ef))]) rfl ?_
      exact k
    · rw [show (m0_125_0 ef) = (m0_119_0 ef) from by first | (rw [m0_125_0, if_neg hc126]; done) | (simp only [m0_125_0, if_neg hc126]; done) | rfl] at k
      rw [show (m0_125_1 ef) = (m0_122_0 ef) from by first | (rw [m0_125_1, if_neg hc126]; done) | (simp only [m0_125_1, if_neg hc126]; done) | rfl] at k
      rw [show (m0_125_2 ef) = (m0_122_2 ef) from by first | (rw [m0_125_2, if_neg hc126]; done) | (simp only [m0_125_2, if_neg hc126]; done) | rfl] at k
      refine pre124 t ?_
      show Steps p.tables e below (T100.setTop (mkF m 359 #[.val (.int p1), .val (.int p2), .val (.int p3), .val (.int p4), .val (.int p5), .val (.int p6), .val (.int ((p1 &&& (15 : Int32)) + (1 : Int32))), .val (.ref b1), .val (.ref b6), .val (.ref b12), .val (.ref b43), .val (.int (2147483647 : Int32)), .val (.int (m0_115_0 ef)), .val (.int (m0_119_0 ef)), .val (.int (m0_122_0 ef)), .val (.int (m0_122_1 ef)), (m0_122_2 ef)] [(.int (m0_122_0 ef)), (.int (m0_119_0 ef))])) _
      refine XS.icmpYes X100.here hx rfl (pc0 := 359) (pc' := 374) rfl (hb hby at_359) rfl (flt hc126).2.2.2 (by decide) (by decide) ?_
      exact k
  have F127 := (F99.keep K100)
  obtain ⟨cq128, kq128, q128a, q128b, q128c⟩ := isOf hZ rfl F127
  obtain ⟨_, _, ⟨T128, L128, k128, n128⟩, -, X128, ⟨Lc128, hQ128, l128, y128, z128⟩, st128⟩ := X100.virtualBack hx (y := (⟨"com/example/hindsight/hindsight/solvers/BucketQueue", "minKey", "()I"⟩ : MethodName)) (z := (⟨"com/example/hindsight/hindsight/solvers/BucketQueue", "minKey", "()I"⟩ : MethodName)) hown (mvT hZ (hw _ (List.mem_of_getElem? (i := 36) rfl))) (mvT hZ (hw _ (List.mem_of_getElem? (i := 37) rfl))) (notFace_of_selects (args := #[]) (mvT hZ (hw _ (List.mem_of_getElem? (i := 39) rfl)))) (mvT hZ (hw _ (List.mem_of_getElem? (i := 39) rfl))) (mvT hZ (hw _ (List.mem_of_getElem? (i := 38) rfl))) (by decide) (backOf (W := 0) (rm6 l Z a0 hw [] b43 r1_49 r2_49 r3_49 r4_49 ((((p1 &&& (15 : Int32)) + (1 : Int32)) - (1 : Int32)) + (1 : Int32)) w1_100 (0 : Int32) g1_100 g2_100 g3_100 g4_100 (T100.heap) n0 (Nat.le_trans Z0 K101.1) F127 P100_0 P100_1 P100_2 P100_3 P100_4 P100_5 P100_6 P100_7 P100_8 P100_9 g_b43 g_r1_49 g_r2_49 g_r3_49 g_r4_49 P49_10 P49_11 P49_12 P49_13 P49_14 P49_15 P49_16 P49_17 P49_18 P49_19 (P100_10) (hlo1) (hex1) (by decide : 0 ≤ (0 : Int32).toInt)) hZ (hw _ (List.mem_of_getElem? (i := 40) rfl)) (hw _ (List.mem_of_getElem? (i := 8) rfl)) (by decide) (by decide)) q128a q128c (g := (mkF m 376 #[.val (.int p1), .val (.int p2), .val (.int p3), .val (.int p4), .val (.int p5), .val (.int p6), .val (.int ((p1 &&& (15 : Int32)) + (1 : Int32))), .val (.ref b1), .val (.ref b6), .val (.ref b12), .val (.ref b43), .val (.int (2147483647 : Int32)), .val (.int (m0_115_0 ef)), .val (.int (m0_125_0 ef)), .val (.int (m0_125_1 ef)), .val (.int (m0_122_1 ef)), (m0_125_2 ef)] [(.ref b43)])) rfl (by rw [hml]; rfl) (Steps.refl _) (argsL := []) (rest := []) (lenOf pd_1 rfl) rfl (by show 2 * 0 + _ ≤ _; exact Nat.le_of_eq rfl) (hb hby at_376) (fun _ _ => ⟨rfl, rfl, (by decide : 8 + 0 ≤ _), (by decide : 42 + 0 ≤ _)⟩)
  dsimp only [Pt.U, Pt.locs, Pt.cells, Pt.slots] at X128 l128 y128 z128 st128 hQ128
  first | rw [l128, y128, z128] at X128 | subst l128 y128 z128
  obtain ⟨mv_128, rfl, N128q, K128, P128_0, P128_1, P128_2, P128_3, P128_4, P128_5, P128_6, P128_7, P128_8, P128_9⟩ := hQ128
  have K129 : Keep h0 T128.heap [] := K101.trans K128 (allS (Or.inr sz_b43) all0)
  have N128 := Fr.app N100 N128q
  have pre130 : ∀ t, Steps p.tables e below (T128.setTop (mkF m 381 #[.val (.int p1), .val (.int p2), .val (.int p3), .val (.int p4), .val (.int p5), .val (.int p6), .val (.int ((p1 &&& (15 : Int32)) + (1 : Int32))), .val (.ref b1), .val (.ref b6), .val (.ref b12), .val (.ref b43), .val (.int (2147483647 : Int32)), .val (.int (m0_115_0 ef)), .val (.int (m0_125_0 ef)), .val (.int (m0_125_1 ef)), .val (.int (m0_122_1 ef)), (m0_125_2 ef)] [(.int (m0_125_0 ef)), (.int mv_128)])) t → Steps p.tables e below (s₁.setTop (entryFrame m #[(.int p1), (.int p2), (.int p3), (.int p4), (.int p5), (.int p6)] maxLocals)) t := fun t k => pre125 t (by
    show Steps p.tables e below (T100.setTop (mkF m 374 #[.val (.int p1), .val (.int p2), .val (.int p3), .val (.int p4), .val (.int p5), .val (.int p6), .val (.int ((p1 &&& (15 : Int32)) + (1 : Int32))), .val (.ref b1), .val (.ref b6), .val (.ref b12), .val (.ref b43), .val (.int (2147483647 : Int32)), .val (.int (m0_115_0 ef)), .val (.int (m0_125_0 ef)), .val (.int (m0_125_1 ef)), .val (.int (m0_122_1 ef)), (m0_125_2 ef)] [])) _
    refine XS.aload X100.here hx rfl (hb hby at_374) rfl rfl ?_
    show Steps p.tables e below (T100.setTop (mkF m 376 #[.val (.int p1), .val (.int p2), .val (.int p3), .val (.int p4), .val (.int p5), .val (.int p6), .val (.int ((p1 &&& (15 : Int32)) + (1 : Int32))), .val (.ref b1), .val (.ref b6), .val (.ref b12), .val (.ref b43), .val (.int (2147483647 : Int32)), .val (.int (m0_115_0 ef)), .val (.int (m0_125_0 ef)), .val (.int (m0_125_1 ef)), .val (.int (m0_122_1 ef)), (m0_125_2 ef)] [(.ref b43)])) _
    refine st128.trans ?_
    show Steps p.tables e below (T128.setTop (mkF m 379 #[.val (.int p1), .val (.int p2), .val (.int p3), .val (.int p4), .val (.int p5), .val (.int p6), .val (.int ((p1 &&& (15 : Int32)) + (1 : Int32))), .val (.ref b1), .val (.ref b6), .val (.ref b12), .val (.ref b43), .val (.int (2147483647 : Int32)), .val (.int (m0_115_0 ef)), .val (.int (m0_125_0 ef)), .val (.int (m0_125_1 ef)), .val (.int (m0_122_1 ef)), (m0_125_2 ef)] [(.int mv_128)])) _
    refine XS.iload X128.here hx rfl (hb hby at_379) rfl ?_
    exact k)
  by_cases hc131 : mv_128 = (m0_125_0 ef)
  · have pre132 : ∀ t, Steps p.tables e below (T128.setTop (mkF m 389 #[.val (.int p1), .val (.int p2), .val (.int p3), .val (.int p4), .val (.int p5), .val (.int p6), .val (.int ((p1 &&& (15 : Int32)) + (1 : Int32))), .val (.ref b1), .val (.ref b6), .val (.ref b12), .val (.ref b43), .val (.int (2147483647 : Int32)), .val (.int (m0_115_0 ef)), .val (.int (m0_125_0 ef)), .val (.int (m0_125_1 ef)), .val (.int (m0_122_1 ef)), (m0_125_2 ef)] [(.int (2 : Int32)), (.int (m0_115_0 ef))])) t → Steps p.tables e below (s₁.setTop (entryFrame m #[(.int p1), (.int p2), (.int p3), (.int p4), (.int p5), (.int p6)] maxLocals)) t := fun t k => pre130 t (by
      show Steps p.tables e below (T128.setTop (mkF m 381 #[.val (.int p1), .val (.int p2), .val (.int p3), .val (.int p4), .val (.int p5), .val (.int p6), .val (.int ((p1 &&& (15 : Int32)) + (1 : Int32))), .val (.ref b1), .val (.ref b6), .val (.ref b12), .val (.ref b43), .val (.int (2147483647 : Int32)), .val (.int (m0_115_0 ef)), .val (.int (m0_125_0 ef)), .val (.int (m0_125_1 ef)), .val (.int (m0_122_1 ef)), (m0_125_2 ef)] [(.int (m0_125_0 ef)), (.int mv_128)])) _
      refine XS.icmpYes X128.here hx rfl (pc0 := 381) (pc' := 386) rfl (hb hby at_381) rfl (teq hc131).1 (by decide) (by decide) ?_
      show Steps p.tables e below (T128.setTop (mkF m 386 #[.val (.int p1), .val (.int p2), .val (.int p3), .val (.int p4), .val (.int p5), .val (.int p6), .val (.int ((p1 &&& (15 : Int32)) + (1 : Int32))), .val (.ref b1), .val (.ref b6), .val (.ref b12), .val (.ref b43), .val (.int (2147483647 : Int32)), .val (.int (m0_115_0 ef)), .val (.int (m0_125_0 ef)), .val (.int (m0_125_1 ef)), .val (.int (m0_122_1 ef)), (m0_125_2 ef)] [])) _
      refine XS.iload X128.here hx rfl (hb hby at_386) rfl ?_
      show Steps p.tables e below (T128.setTop (mkF m 388 #[.val (.int p1), .val (.int p2), .val (.int p3), .val (.int p4), .val (.int p5), .val (.int p6), .val (.int ((p1 &&& (15 : Int32)) + (1 : Int32))), .val (.ref b1), .val (.ref b6), .val (.ref b12), .val (.ref b43), .val (.int (2147483647 : Int32)), .val (.int (m0_115_0 ef)), .val (.int (m0_125_0 ef)), .val (.int (m0_125_1 ef)), .val (.int (m0_122_1 ef)), (m0_125_2 ef)] [(.int (m0_115_0 ef))])) _
      refine XS.iconst X128.here hx rfl (hb hby at_388) ?_
      exact k)
    by_cases hc133 : (m0_115_0 ef) < (2 : Int32)
    · obtain ⟨fs, hr, hrun, hended, hW, hsame⟩ := X128.leave (v := some (.int (1 : Int32))) (fun h => by rw [Bd.returns] at h; cases h) hlk
      refine ⟨_, _, pre132 _ ?_, hrun, hended, _, _, rfl, ?_, ⟨_, rfl⟩, hW, hsame.mono (by decide) (by decide)⟩
      · show Steps p.tables e below (T128.setTop (mkF m 389 #[.val (.int p1), .val (.int p2), .val (.int p3), .val (.int p4), .val (.int p5), .val (.int p6), .val (.int ((p1 &&& (15 : Int32)) + (1 : Int32))), .val (.ref b1), .val (.ref b6), .val (.ref b12), .val (.ref b43), .val (.int (2147483647 : Int32)), .val (.int (m0_115_0 ef)), .val (.int (m0_125_0 ef)), .val (.int (m0_125_1 ef)), .val (.int (m0_122_1 ef)), (m0_125_2 ef)] [(.int (2 : Int32)), (.int (m0_115_0 ef))])) _
        refine XS.icmpNo X128.here hx rfl (hb hby at_389) rfl (tlt hc133).2.1 ?_
        show Steps p.tables e below (T128.setTop (mkF m 392 #[.val (.int p1), .val (.int p2), .val (.int p3), .val (.int p4), .val (.int p5), .val (.int p6), .val (.int ((p1 &&& (15 : Int32)) + (1 : Int32))), .val (.ref b1), .val (.ref b6), .val (.ref b12), .val (.ref b43), .val (.int (2147483647 : Int32)), .val (.int (m0_115_0 ef)), .val (.int (m0_125_0 ef)), .val (.int (m0_125_1 ef)), .val (.int (m0_122_1 ef)), (m0_125_2 ef)] [])) _
        refine XS.iconst X128.here hx rfl (hb hby at_392) ?_
        show Steps p.tables e below (T128.setTop (mkF m 393 #[.val (.int p1), .val (.int p2), .val (.int p3), .val (.int p4), .val (.int p5), .val (.int p6), .val (.int ((p1 &&& (15 : Int32)) + (1 : Int32))), .val (.ref b1), .val (.ref b6), .val (.ref b12), .val (.ref b43), .val (.int (2147483647 : Int32)), .val (.int (m0_115_0 ef)), .val (.int (m0_125_0 ef)), .val (.int (m0_125_1 ef)), .val (.int (m0_122_1 ef)), (m0_125_2 ef)] [(.int (1 : Int32))])) _
        exact retN X128 hx (t := .boolean) Bd.returns (by simp) (hb hby at_393) hr
      · show Q0 Z p1 p2 p3 p4 p5 p6 h0 n0 _ T128.heap _
        exact ⟨rfl, N128⟩
    · have F135 := (F127.keep K128)
      have F136 := (P100_6.keep K128 (ninS (Ne.symm P49_10) nin0))
      have F137 := (P100_7.keep K128 (ninS (Ne.symm P49_11) nin0))
      have F138 := (P100_8.keep K128 (ninS (Ne.symm P49_12) nin0))
      have F139 := (P100_9.keep K128 (ninS (Ne.symm P49_13) nin0))
      obtain ⟨cq140, kq140, q140a, q140b, q140c⟩ := isOf hZ rfl F135
      obtain ⟨_, _, ⟨T140, L140, k140, n140⟩, -, X140, ⟨Lc140, hQ140, l140, y140, z140⟩, st140⟩ := X128.virtualBack hx (y := (⟨"com/example/hindsight/hindsight/solvers/BucketQueue", "popMin", "()I"⟩ : MethodName)) (z := (⟨"com/example/hindsight/hindsight/solvers/BucketQueue", "popMin", "()I"⟩ : MethodName)) hown (mvT hZ (hw _ (List.mem_of_getElem? (i := 41) rfl))) (mvT hZ (hw _ (List.mem_of_getElem? (i := 42) rfl))) (notFace_of_selects (args := #[]) (mvT hZ (hw _ (List.mem_of_getElem? (i := 44) rfl)))) (mvT hZ (hw _ (List.mem_of_getElem? (i := 44) rfl))) (mvT hZ (hw _ (List.mem_of_getElem? (i := 43) rfl))) (by decide) (backOf (W := 0) (rm7 l Z a0 hw [] b43 r1_49 r2_49 r3_49 r4_49 ((((p1 &&& (15 : Int32)) + (1 : Int32)) - (1 : Int32)) + (1 : Int32)) w1_100 mv_128 g1_100 g2_100 g3_100 g4_100 (T128.heap) n0 (Nat.le_trans Z0 K129.1) F135 P128_0 P128_1 P128_2 P128_3 P128_4 P128_5 F136 F137 F138 F139 g_b43 g_r1_49 g_r2_49 g_r3_49 g_r4_49 P49_10 P49_11 P49_12 P49_13 P49_14 P49_15 P49_16 P49_17 P49_18 P49_19 (P100_10) (P128_7) (hex1) (P128_8.1)) hZ (hw _ (List.mem_of_getElem? (i := 45) rfl)) (hw _ (List.mem_of_getElem? (i := 8) rfl)) (by decide) (by decide)) q140a q140c (g := (mkF m 396 #[.val (.int p1), .val (.int p2), .val (.int p3), .val (.int p4), .val (.int p5), .val (.int p6), .val (.int ((p1 &&& (15 : Int32)) + (1 : Int32))), .val (.ref b1), .val (.ref b6), .val (.ref b12), .val (.ref b43), .val (.int (2147483647 : Int32)), .val (.int (m0_115_0 ef)), .val (.int (m0_125_0 ef)), .val (.int (m0_125_1 ef)), .val (.int (m0_122_1 ef)), (m0_125_2 ef)] [(.ref b43)])) rfl (by rw [hml]; rfl) (Steps.refl _) (argsL := []) (rest := []) (lenOf pd_1 rfl) rfl (by show 2 * 0 + _ ≤ _; exact Nat.le_of_eq rfl) (hb hby at_396) (fun _ _ => ⟨rfl, rfl, (by decide : 8 + 0 ≤ _), (by decide : 42 + 0 ≤ _)⟩)
      dsimp only [Pt.U, Pt.locs, Pt.cells, Pt.slots] at X140 l140 y140 z140 st140 hQ140
      first | rw [l140, y140, z140] at X140 | subst l140 y140 z140
      obtain ⟨mv_140, g1_140, g2_140, g3_140, g4_140, rfl, N140q, K140, P140_0, P140_1, P140_2, P140_3, P140_4, P140_5, P140_6, P140_7, P140_8, P140_9, P140_10, P140_11, P140_12, P140_13⟩ := hQ140
      have K141 : Keep h0 T140.heap [] := K129.trans K140 (allS (Or.inr sz_b43) (allS (Or.inr sz69) (allS (Or.inr sz70) (allS (Or.inr sz71) (allS (Or.inr sz72) all0)))))
      have N140 := Fr.app N128 N140q
      have F142 := (F135.keep K140)
      obtain ⟨cq143, kq143, q143a, q143b, q143c⟩ := isOf hZ rfl F142
      obtain ⟨_, _, ⟨T143, L143, k143, n143⟩, -, X143, ⟨Lc143, hQ143, l143, y143, z143⟩, st143⟩ := X140.virtualBack hx (y := (⟨"com/example/hindsight/hindsight/solvers/BucketQueue", "minKey", "()I"⟩ : MethodName)) (z := (⟨"com/example/hindsight/hindsight/solvers/BucketQueue", "minKey", "()I"⟩ : MethodName)) hown (mvT hZ (hw _ (List.mem_of_getElem? (i := 36) rfl))) (mvT hZ (hw _ (List.mem_of_getElem? (i := 37) rfl))) (notFace_of_selects (args := #[]) (mvT hZ (hw _ (List.mem_of_getElem? (i := 39) rfl)))) (mvT hZ (hw _ (List.mem_of_getElem? (i := 39) rfl))) (mvT hZ (hw _ (List.mem_of_getElem? (i := 38) rfl))) (by decide) (backOf (W := 0) (rm6 l Z a0 hw [] b43 r1_49 r2_49 r3_49 r4_49 ((((p1 &&& (15 : Int32)) + (1 : Int32)) - (1 : Int32)) + (1 : Int32)) (w1_100 - (1 : Int32)) mv_140 g1_140 g2_140 g3_140 g4_140 (T140.heap) n0 (Nat.le_trans Z0 K141.1) F142 P140_0 P140_1 P140_2 P140_3 P140_4 P140_5 P140_6 P140_7 P140_8 P140_9 g_b43 g_r1_49 g_r2_49 g_r3_49 g_r4_49 P49_10 P49_11 P49_12 P49_13 P49_14 P49_15 P49_16 P49_17 P49_18 P49_19 (P140_10) (own_lo2 P140_11 P140_12) (own_ex2 ef hrg hke P140_11 hc133) (P140_13.1)) hZ (hw _ (List.mem_of_getElem? (i := 40) rfl)) (hw _ (List.mem_of_getElem? (i := 8) rfl)) (by decide) (by decide)) q143a q143c (g := (mkF m 402 #[.val (.int p1), .val (.int p2), .val (.int p3), .val (.int p4), .val (.int p5), .val (.int p6), .val (.int ((p1 &&& (15 : Int32)) + (1 : Int32))), .val (.ref b1), .val (.ref b6), .val (.ref b12), .val (.ref b43), .val (.int (2147483647 : Int32)), .val (.int (m0_115_0 ef)), .val (.int (m0_125_0 ef)), .val (.int (m0_125_1 ef)), .val (.int (m0_122_1 ef)), (m0_125_2 ef)] [(.ref b43)])) rfl (by rw [hml]; rfl) (Steps.refl _) (argsL := []) (rest := []) (lenOf pd_1 rfl) rfl (by show 2 * 0 + _ ≤ _; exact Nat.le_of_eq rfl) (hb hby at_402) (fun _ _ => ⟨rfl, rfl, (by decide : 8 + 0 ≤ _), (by decide : 42 + 0 ≤ _)⟩)
      dsimp only [Pt.U, Pt.locs, Pt.cells, Pt.slots] at X143 l143 y143 z143 st143 hQ143
      first | rw [l143, y143, z143] at X143 | subst l143 y143 z143
      obtain ⟨mv_143, rfl, N143q, K143, P143_0, P143_1, P143_2, P143_3, P143_4, P143_5, P143_6, P143_7, P143_8, P143_9⟩ := hQ143
      have K144 : Keep h0 T143.heap [] := K141.trans K143 (allS (Or.inr sz_b43) all0)
      have N143 := Fr.app N140 N143q
      have pre145 : ∀ t, Steps p.tables e below (T143.setTop (mkF m 407 #[.val (.int p1), .val (.int p2), .val (.int p3), .val (.int p4), .val (.int p5), .val (.int p6), .val (.int ((p1 &&& (15 : Int32)) + (1 : Int32))), .val (.ref b1), .val (.ref b6), .val (.ref b12), .val (.ref b43), .val (.int (2147483647 : Int32)), .val (.int (m0_115_0 ef)), .val (.int (m0_125_0 ef)), .val (.int (m0_125_1 ef)), .val (.int (m0_122_1 ef)), (m0_125_2 ef)] [(.int (m0_125_1 ef)), (.int mv_143)])) t → Steps p.tables e below (s₁.setTop (entryFrame m #[(.int p1), (.int p2), (.int p3), (.int p4), (.int p5), (.int p6)] maxLocals)) t := fun t k => pre132 t (by
        show Steps p.tables e below (T128.setTop (mkF m 389 #[.val (.int p1), .val (.int p2), .val (.int p3), .val (.int p4), .val (.int p5), .val (.int p6), .val (.int ((p1 &&& (15 : Int32)) + (1 : Int32))), .val (.ref b1), .val (.ref b6), .val (.ref b12), .val (.ref b43), .val (.int (2147483647 : Int32)), .val (.int (m0_115_0 ef)), .val (.int (m0_125_0 ef)), .val (.int (m0_125_1 ef)), .val (.int (m0_122_1 ef)), (m0_125_2 ef)] [(.int (2 : Int32)), (.int (m0_115_0 ef))])) _
        refine XS.icmpYes X128.here hx rfl (pc0 := 389) (pc' := 394) rfl (hb hby at_389) rfl (flt hc133).2.1 (by decide) (by decide) ?_
        show Steps p.tables e below (T128.setTop (mkF m 394 #[.val (.int p1), .val (.int p2), .val (.int p3), .val (.int p4), .val (.int p5), .val (.int p6), .val (.int ((p1 &&& (15 : Int32)) + (1 : Int32))), .val (.ref b1), .val (.ref b6), .val (.ref b12), .val (.ref b43), .val (.int (2147483647 : Int32)), .val (.int (m0_115_0 ef)), .val (.int (m0_125_0 ef)), .val (.int (m0_125_1 ef)), .val (.int (m0_122_1 ef)), (m0_125_2 ef)] [])) _
        refine XS.aload X128.here hx rfl (hb hby at_394) rfl rfl ?_
        show Steps p.tables e below (T128.setTop (mkF m 396 #[.val (.int p1), .val (.int p2), .val (.int p3), .val (.int p4), .val (.int p5), .val (.int p6), .val (.int ((p1 &&& (15 : Int32)) + (1 : Int32))), .val (.ref b1), .val (.ref b6), .val (.ref b12), .val (.ref b43), .val (.int (2147483647 : Int32)), .val (.int (m0_115_0 ef)), .val (.int (m0_125_0 ef)), .val (.int (m0_125_1 ef)), .val (.int (m0_122_1 ef)), (m0_125_2 ef)] [(.ref b43)])) _
        refine st140.trans ?_
        show Steps p.tables e below (T140.setTop (mkF m 399 #[.val (.int p1), .val (.int p2), .val (.int p3), .val (.int p4), .val (.int p5), .val (.int p6), .val (.int ((p1 &&& (15 : Int32)) + (1 : Int32))), .val (.ref b1), .val (.ref b6), .val (.ref b12), .val (.ref b43), .val (.int (2147483647 : Int32)), .val (.int (m0_115_0 ef)), .val (.int (m0_125_0 ef)), .val (.int (m0_125_1 ef)), .val (.int (m0_122_1 ef)), (m0_125_2 ef)] [(.int (g1_100 mv_140.toNatClampNeg))])) _
        refine XS.pop X140.here hx rfl (hb hby at_399) rfl rfl ?_
        show Steps p.tables e below (T140.setTop (mkF m 400 #[.val (.int p1), .val (.int p2), .val (.int p3), .val (.int p4), .val (.int p5), .val (.int p6), .val (.int ((p1 &&& (15 : Int32)) + (1 : Int32))), .val (.ref b1), .val (.ref b6), .val (.ref b12), .val (.ref b43), .val (.int (2147483647 : Int32)), .val (.int (m0_115_0 ef)), .val (.int (m0_125_0 ef)), .val (.int (m0_125_1 ef)), .val (.int (m0_122_1 ef)), (m0_125_2 ef)] [])) _
        refine XS.aload X140.here hx rfl (hb hby at_400) rfl rfl ?_
        show Steps p.tables e below (T140.setTop (mkF m 402 #[.val (.int p1), .val (.int p2), .val (.int p3), .val (.int p4), .val (.int p5), .val (.int p6), .val (.int ((p1 &&& (15 : Int32)) + (1 : Int32))), .val (.ref b1), .val (.ref b6), .val (.ref b12), .val (.ref b43), .val (.int (2147483647 : Int32)), .val (.int (m0_115_0 ef)), .val (.int (m0_125_0 ef)), .val (.int (m0_125_1 ef)), .val (.int (m0_122_1 ef)), (m0_125_2 ef)] [(.ref b43)])) _
        refine st143.trans ?_
        show Steps p.tables e below (T143.setTop (mkF m 405 #[.val (.int p1), .val (.int p2), .val (.int p3), .val (.int p4), .val (.int p5), .val (.int p6), .val (.int ((p1 &&& (15 : Int32)) + (1 : Int32))), .val (.ref b1), .val (.ref b6), .val (.ref b12), .val (.ref b43), .val (.int (2147483647 : Int32)), .val (.int (m0_115_0 ef)), .val (.int (m0_125_0 ef)), .val (.int (m0_125_1 ef)), .val (.int (m0_122_1 ef)), (m0_125_2 ef)] [(.int mv_143)])) _
        refine XS.iload X143.here hx rfl (hb hby at_405) rfl ?_
        exact k)
      by_cases hc146 : mv_143 = (m0_125_1 ef)
      · have pre147 : ∀ t, Steps p.tables e below (T143.setTop (mkF m 415 #[.val (.int p1), .val (.int p2), .val (.int p3), .val (.int p4), .val (.int p5), .val (.int p6), .val (.int ((p1 &&& (15 : Int32)) + (1 : Int32))), .val (.ref b1), .val (.ref b6), .val (.ref b12), .val (.ref b43), .val (.int (2147483647 : Int32)), .val (.int (m0_115_0 ef)), .val (.int (m0_125_0 ef)), .val (.int (m0_125_1 ef)), .val (.int (m0_122_1 ef)), (m0_125_2 ef)] [(.int (3 : Int32)), (.int (m0_115_0 ef))])) t → Steps p.tables e below (s₁.setTop (entryFrame m #[(.int p1), (.int p2), (.int p3), (.int p4), (.int p5), (.int p6)] maxLocals)) t := fun t k => pre145 t (by
          show Steps p.tables e below (T143.setTop (mkF m 407 #[.val (.int p1), .val (.int p2), .val (.int p3), .val (.int p4), .val (.int p5), .val (.int p6), .val (.int ((p1 &&& (15 : Int32)) + (1 : Int32))), .val (.ref b1), .val (.ref b6), .val (.ref b12), .val (.ref b43), .val (.int (2147483647 : Int32)), .val (.int (m0_115_0 ef)), .val (.int (m0_125_0 ef)), .val (.int (m0_125_1 ef)), .val (.int (m0_122_1 ef)), (m0_125_2 ef)] [(.int (m0_125_1 ef)), (.int mv_143)])) _
          refine XS.icmpYes X143.here hx rfl (pc0 := 407) (pc' := 412) rfl (hb hby at_407) rfl (teq hc146).1 (by decide) (by decide) ?_
          show Steps p.tables e below (T143.setTop (mkF m 412 #[.val (.int p1), .val (.int p2), .val (.int p3), .val (.int p4), .val (.int p5), .val (.int p6), .val (.int ((p1 &&& (15 : Int32)) + (1 : Int32))), .val (.ref b1), .val (.ref b6), .val (.ref b12), .val (.ref b43), .val (.int (2147483647 : Int32)), .val (.int (m0_115_0 ef)), .val (.int (m0_125_0 ef)), .val (.int (m0_125_1 ef)), .val (.int (m0_122_1 ef)), (m0_125_2 ef)] [])) _
          refine XS.iload X143.here hx rfl (hb hby at_412) rfl ?_
          show Steps p.tables e below (T143.setTop (mkF m 414 #[.val (.int p1), .val (.int p2), .val (.int p3), .val (.int p4), .val (.int p5), .val (.int p6), .val (.int ((p1 &&& (15 : Int32)) + (1 : Int32))), .val (.ref b1), .val (.ref b6), .val (.ref b12), .val (.ref b43), .val (.int (2147483647 : Int32)), .val (.int (m0_115_0 ef)), .val (.int (m0_125_0 ef)), .val (.int (m0_125_1 ef)), .val (.int (m0_122_1 ef)), (m0_125_2 ef)] [(.int (m0_115_0 ef))])) _
          refine XS.iconst X143.here hx rfl (hb hby at_414) ?_
          exact k)
        by_cases hc148 : (m0_115_0 ef) < (3 : Int32)
        · obtain ⟨fs, hr, hrun, hended, hW, hsame⟩ := X143.leave (v := some (.int (1 : Int32))) (fun h => by rw [Bd.returns] at h; cases h) hlk
          refine ⟨_, _, pre147 _ ?_, hrun, hended, _, _, rfl, ?_, ⟨_, rfl⟩, hW, hsame.mono (by decide) (by decide)⟩
          · show Steps p.tables e below (T143.setTop (mkF m 415 #[.val (.int p1), .val (.int p2), .val (.int p3), .val (.int p4), .val (.int p5), .val (.int p6), .val (.int ((p1 &&& (15 : Int32)) + (1 : Int32))), .val (.ref b1), .val (.ref b6), .val (.ref b12), .val (.ref b43), .val (.int (2147483647 : Int32)), .val (.int (m0_115_0 ef)), .val (.int (m0_125_0 ef)), .val (.int (m0_125_1 ef)), .val (.int (m0_122_1 ef)), (m0_125_2 ef)] [(.int (3 : Int32)), (.int (m0_115_0 ef))])) _
            refine XS.icmpNo X143.here hx rfl (hb hby at_415) rfl (tlt hc148).2.1 ?_
            show Steps p.tables e below (T143.setTop (mkF m 418 #[.val (.int p1), .val (.int p2), .val (.int p3), .val (.int p4), .val (.int p5), .val (.int p6), .val (.int ((p1 &&& (15 : Int32)) + (1 : Int32))), .val (.ref b1), .val (.ref b6), .val (.ref b12), .val (.ref b43), .val (.int (2147483647 : Int32)), .val (.int (m0_115_0 ef)), .val (.int (m0_125_0 ef)), .val (.int (m0_125_1 ef)), .val (.int (m0_122_1 ef)), (m0_125_2 ef)] [])) _
            refine XS.iconst X143.here hx rfl (hb hby at_418) ?_
            show Steps p.tables e below (T143.setTop (mkF m 419 #[.val (.int p1), .val (.int p2), .val (.int p3), .val (.int p4), .val (.int p5), .val (.int p6), .val (.int ((p1 &&& (15 : Int32)) + (1 : Int32))), .val (.ref b1), .val (.ref b6), .val (.ref b12), .val (.ref b43), .val (.int (2147483647 : Int32)), .val (.int (m0_115_0 ef)), .val (.int (m0_125_0 ef)), .val (.int (m0_125_1 ef)), .val (.int (m0_122_1 ef)), (m0_125_2 ef)] [(.int (1 : Int32))])) _
            exact retN X143 hx (t := .boolean) Bd.returns (by simp) (hb hby at_419) hr
          · show Q0 Z p1 p2 p3 p4 p5 p6 h0 n0 _ T143.heap _
            exact ⟨rfl, N143⟩
        · have F150 := (F142.keep K143)
          have F151 := (P140_6.keep K143 (ninS (Ne.symm P49_10) nin0))
          have F152 := (P140_7.keep K143 (ninS (Ne.symm P49_11) nin0))
          have F153 := (P140_8.keep K143 (ninS (Ne.symm P49_12) nin0))
          have F154 := (P140_9.keep K143 (ninS (Ne.symm P49_13) nin0))
          obtain ⟨cq155, kq155, q155a, q155b, q155c⟩ := isOf hZ rfl F150
          obtain ⟨_, _, ⟨T155, L155, k155, n155⟩, -, X155, ⟨Lc155, hQ155, l155, y155, z155⟩, st155⟩ := X143.virtualBack hx (y := (⟨"com/example/hindsight/hindsight/solvers/BucketQueue", "popMin", "()I"⟩ : MethodName)) (z := (⟨"com/example/hindsight/hindsight/solvers/BucketQueue", "popMin", "()I"⟩ : MethodName)) hown (mvT hZ (hw _ (List.mem_of_getElem? (i := 41) rfl))) (mvT hZ (hw _ (List.mem_of_getElem? (i := 42) rfl))) (notFace_of_selects (args := #[]) (mvT hZ (hw _ (List.mem_of_getElem? (i := 44) rfl)))) (mvT hZ (hw _ (List.mem_of_getElem? (i := 44) rfl))) (mvT hZ (hw _ (List.mem_of_getElem? (i := 43) rfl))) (by decide) (backOf (W := 0) (rm7 l Z a0 hw [] b43 r1_49 r2_49 r3_49 r4_49 ((((p1 &&& (15 : Int32)) + (1 : Int32)) - (1 : Int32)) + (1 : Int32)) (w1_100 - (1 : Int32)) mv_143 g1_140 g2_140 g3_140 g4_140 (T143.heap) n0 (Nat.le_trans Z0 K144.1) F150 P143_0 P143_1 P143_2 P143_3 P143_4 P143_5 F151 F152 F153 F154 g_b43 g_r1_49 g_r2_49 g_r3_49 g_r4_49 P49_10 P49_11 P49_12 P49_13 P49_14 P49_15 P49_16 P49_17 P49_18 P49_19 (P140_10) (P143_7) (own_ex2 ef hrg hke P140_11 hc133) (P143_8.1)) hZ (hw _ (List.mem_of_getElem? (i := 45) rfl)) (hw _ (List.mem_of_getElem? (i := 8) rfl)) (by decide) (by decide)) q155a q155c (g := (mkF m 422 #[.val (.int p1), .val (.int p2), .val (.int p3), .val (.int p4), .val (.int p5), .val (.int p6), .val (.int ((p1 &&& (15 : Int32)) + (1 : Int32))), .val (.ref b1), .val (.ref b6), .val (.ref b12), .val (.ref b43), .val (.int (2147483647 : Int32)), .val (.int (m0_115_0 ef)), .val (.int (m0_125_0 ef)), .val (.int (m0_125_1 ef)), .val (.int (m0_122_1 ef)), (m0_125_2 ef)] [(.ref b43)])) rfl (by rw [hml]; rfl) (Steps.refl _) (argsL := []) (rest := []) (lenOf pd_1 rfl) rfl (by show 2 * 0 + _ ≤ _; exact Nat.le_of_eq rfl) (hb hby at_422) (fun _ _ => ⟨rfl, rfl, (by decide : 8 + 0 ≤ _), (by decide : 42 + 0 ≤ _)⟩)
          dsimp only [Pt.U, Pt.locs, Pt.cells, Pt.slots] at X155 l155 y155 z155 st155 hQ155
          first | rw [l155, y155, z155] at X155 | subst l155 y155 z155
          obtain ⟨mv_155, g1_155, g2_155, g3_155, g4_155, rfl, N155q, K155, P155_0, P155_1, P155_2, P155_3, P155_4, P155_5, P155_6, P155_7, P155_8, P155_9, P155_10, P155_11, P155_12, P155_13⟩ := hQ155
          have K156 : Keep h0 T155.heap [] := K144.trans K155 (allS (Or.inr sz_b43) (allS (Or.inr sz69) (allS (Or.inr sz70) (allS (Or.inr sz71) (allS (Or.inr sz72) all0)))))
          have N155 := Fr.app N143 N155q
          have F157 := (F150.keep K155)
          obtain ⟨cq158, kq158, q158a, q158b, q158c⟩ := isOf hZ rfl F157
          obtain ⟨_, _, ⟨T158, L158, k158, n158⟩, -, X158, ⟨Lc158, hQ158, l158, y158, z158⟩, st158⟩ := X155.virtualBack hx (y := (⟨"com/example/hindsight/hindsight/solvers/BucketQueue", "minKey", "()I"⟩ : MethodName)) (z := (⟨"com/example/hindsight/hindsight/solvers/BucketQueue", "minKey", "()I"⟩ : MethodName)) hown (mvT hZ (hw _ (List.mem_of_getElem? (i := 36) rfl))) (mvT hZ (hw _ (List.mem_of_getElem? (i := 37) rfl))) (notFace_of_selects (args := #[]) (mvT hZ (hw _ (List.mem_of_getElem? (i := 39) rfl)))) (mvT hZ (hw _ (List.mem_of_getElem? (i := 39) rfl))) (mvT hZ (hw _ (List.mem_of_getElem? (i := 38) rfl))) (by decide) (backOf (W := 0) (rm6 l Z a0 hw [] b43 r1_49 r2_49 r3_49 r4_49 ((((p1 &&& (15 : Int32)) + (1 : Int32)) - (1 : Int32)) + (1 : Int32)) ((w1_100 - (1 : Int32)) - (1 : Int32)) mv_155 g1_155 g2_155 g3_155 g4_155 (T155.heap) n0 (Nat.le_trans Z0 K156.1) F157 P155_0 P155_1 P155_2 P155_3 P155_4 P155_5 P155_6 P155_7 P155_8 P155_9 g_b43 g_r1_49 g_r2_49 g_r3_49 g_r4_49 P49_10 P49_11 P49_12 P49_13 P49_14 P49_15 P49_16 P49_17 P49_18 P49_19 (P155_10) (own_lo2 P155_11 P155_12) (own_ex3 ef hrg hke P140_11 P155_11 hc148) (P155_13.1)) hZ (hw _ (List.mem_of_getElem? (i := 40) rfl)) (hw _ (List.mem_of_getElem? (i := 8) rfl)) (by decide) (by decide)) q158a q158c (g := (mkF m 428 #[.val (.int p1), .val (.int p2), .val (.int p3), .val (.int p4), .val (.int p5), .val (.int p6), .val (.int ((p1 &&& (15 : Int32)) + (1 : Int32))), .val (.ref b1), .val (.ref b6), .val (.ref b12), .val (.ref b43), .val (.int (2147483647 : Int32)), .val (.int (m0_115_0 ef)), .val (.int (m0_125_0 ef)), .val (.int (m0_125_1 ef)), .val (.int (m0_122_1 ef)), (m0_125_2 ef)] [(.ref b43)])) rfl (by rw [hml]; rfl) (Steps.refl _) (argsL := []) (rest := []) (lenOf pd_1 rfl) rfl (by show 2 * 0 + _ ≤ _; exact Nat.le_of_eq rfl) (hb hby at_428) (fun _ _ => ⟨rfl, rfl, (by decide : 8 + 0 ≤ _), (by decide : 42 + 0 ≤ _)⟩)
          dsimp only [Pt.U, Pt.locs, Pt.cells, Pt.slots] at X158 l158 y158 z158 st158 hQ158
          first | rw [l158, y158, z158] at X158 | subst l158 y158 z158
          obtain ⟨mv_158, rfl, N158q, K158, P158_0, P158_1, P158_2, P158_3, P158_4, P158_5, P158_6, P158_7, P158_8, P158_9⟩ := hQ158
          have K159 : Keep h0 T158.heap [] := K156.trans K158 (allS (Or.inr sz_b43) all0)
          have N158 := Fr.app N155 N158q
          have pre160 : ∀ t, Steps p.tables e below (T158.setTop (mkF m 433 #[.val (.int p1), .val (.int p2), .val (.int p3), .val (.int p4), .val (.int p5), .val (.int p6), .val (.int ((p1 &&& (15 : Int32)) + (1 : Int32))), .val (.ref b1), .val (.ref b6), .val (.ref b12), .val (.ref b43), .val (.int (2147483647 : Int32)), .val (.int (m0_115_0 ef)), .val (.int (m0_125_0 ef)), .val (.int (m0_125_1 ef)), .val (.int (m0_122_1 ef)), (m0_125_2 ef)] [(.int (m0_122_1 ef)), (.int mv_158)])) t → Steps p.tables e below (s₁.setTop (entryFrame m #[(.int p1), (.int p2), (.int p3), (.int p4), (.int p5), (.int p6)] maxLocals)) t := fun t k => pre147 t (by
            show Steps p.tables e below (T143.setTop (mkF m 415 #[.val (.int p1), .val (.int p2), .val (.int p3), .val (.int p4), .val (.int p5), .val (.int p6), .val (.int ((p1 &&& (15 : Int32)) + (1 : Int32))), .val (.ref b1), .val (.ref b6), .val (.ref b12), .val (.ref b43), .val (.int (2147483647 : Int32)), .val (.int (m0_115_0 ef)), .val (.int (m0_125_0 ef)), .val (.int (m0_125_1 ef)), .val (.int (m0_122_1 ef)), (m0_125_2 ef)] [(.int (3 : Int32)), (.int (m0_115_0 ef))])) _
            refine XS.icmpYes X143.here hx rfl (pc0 := 415) (pc' := 420) rfl (hb hby at_415) rfl (flt hc148).2.1 (by decide) (by decide) ?_
            show Steps p.tables e below (T143.setTop (mkF m 420 #[.val (.int p1), .val (.int p2), .val (.int p3), .val (.int p4), .val (.int p5), .val (.int p6), .val (.int ((p1 &&& (15 : Int32)) + (1 : Int32))), .val (.ref b1), .val (.ref b6), .val (.ref b12), .val (.ref b43), .val (.int (2147483647 : Int32)), .val (.int (m0_115_0 ef)), .val (.int (m0_125_0 ef)), .val (.int (m0_125_1 ef)), .val (.int (m0_122_1 ef)), (m0_125_2 ef)] [])) _
            refine XS.aload X143.here hx rfl (hb hby at_420) rfl rfl ?_
            show Steps p.tables e below (T143.setTop (mkF m 422 #[.val (.int p1), .val (.int p2), .val (.int p3), .val (.int p4), .val (.int p5), .val (.int p6), .val (.int ((p1 &&& (15 : Int32)) + (1 : Int32))), .val (.ref b1), .val (.ref b6), .val (.ref b12), .val (.ref b43), .val (.int (2147483647 : Int32)), .val (.int (m0_115_0 ef)), .val (.int (m0_125_0 ef)), .val (.int (m0_125_1 ef)), .val (.int (m0_122_1 ef)), (m0_125_2 ef)] [(.ref b43)])) _
            refine st155.trans ?_
            show Steps p.tables e below (T155.setTop (mkF m 425 #[.val (.int p1), .val (.int p2), .val (.int p3), .val (.int p4), .val (.int p5), .val (.int p6), .val (.int ((p1 &&& (15 : Int32)) + (1 : Int32))), .val (.ref b1), .val (.ref b6), .val (.ref b12), .val (.ref b43), .val (.int (2147483647 : Int32)), .val (.int (m0_115_0 ef)), .val (.int (m0_125_0 ef)), .val (.int (m0_125_1 ef)), .val (.int (m0_122_1 ef)), (m0_125_2 ef)] [(.int (g1_140 mv_155.toNatClampNeg))])) _
            refine XS.pop X155.here hx rfl (hb hby at_425) rfl rfl ?_
            show Steps p.tables e below (T155.setTop (mkF m 426 #[.val (.int p1), .val (.int p2), .val (.int p3), .val (.int p4), .val (.int p5), .val (.int p6), .val (.int ((p1 &&& (15 : Int32)) + (1 : Int32))), .val (.ref b1), .val (.ref b6), .val (.ref b12), .val (.ref b43), .val (.int (2147483647 : Int32)), .val (.int (m0_115_0 ef)), .val (.int (m0_125_0 ef)), .val (.int (m0_125_1 ef)), .val (.int (m0_122_1 ef)), (m0_125_2 ef)] [])) _
            refine XS.aload X155.here hx rfl (hb hby at_426) rfl rfl ?_
            show Steps p.tables e below (T155.setTop (mkF m 428 #[.val (.int p1), .val (.int p2), .val (.int p3), .val (.int p4), .val (.int p5), .val (.int p6), .val (.int ((p1 &&& (15 : Int32)) + (1 : Int32))), .val (.ref b1), .val (.ref b6), .val (.ref b12), .val (.ref b43), .val (.int (2147483647 : Int32)), .val (.int (m0_115_0 ef)), .val (.int (m0_125_0 ef)), .val (.int (m0_125_1 ef)), .val (.int (m0_122_1 ef)), (m0_125_2 ef)] [(.ref b43)])) _
            refine st158.trans ?_
            show Steps p.tables e below (T158.setTop (mkF m 431 #[.val (.int p1), .val (.int p2), .val (.int p3), .val (.int p4), .val (.int p5), .val (.int p6), .val (.int ((p1 &&& (15 : Int32)) + (1 : Int32))), .val (.ref b1), .val (.ref b6), .val (.ref b12), .val (.ref b43), .val (.int (2147483647 : Int32)), .val (.int (m0_115_0 ef)), .val (.int (m0_125_0 ef)), .val (.int (m0_125_1 ef)), .val (.int (m0_122_1 ef)), (m0_125_2 ef)] [(.int mv_158)])) _
            refine XS.iload X158.here hx rfl (hb hby at_431) rfl ?_
            exact k)
          by_cases hc161 : mv_158 = (m0_122_1 ef)
          · obtain ⟨fs, hr, hrun, hended, hW, hsame⟩ := X158.leave (v := some (.int (1 : Int32))) (fun h => by rw [Bd.returns] at h; cases h) hlk
            refine ⟨_, _, pre160 _ ?_, hrun, hended, _, _, rfl, ?_, ⟨_, rfl⟩, hW, hsame.mono (by decide) (by decide)⟩
            · show Steps p.tables e below (T158.setTop (mkF m 433 #[.val (.int p1), .val (.int p2), .val (.int p3), .val (.int p4), .val (.int p5), .val (.int p6), .val (.int ((p1 &&& (15 : Int32)) + (1 : Int32))), .val (.ref b1), .val (.ref b6), .val (.ref b12), .val (.ref b43), .val (.int (2147483647 : Int32)), .val (.int (m0_115_0 ef)), .val (.int (m0_125_0 ef)), .val (.int (m0_125_1 ef)), .val (.int (m0_122_1 ef)), (m0_125_2 ef)] [(.int (m0_122_1 ef)), (.int mv_158)])) _
              refine XS.icmpNo X158.here hx rfl (hb hby at_433) rfl (teq hc161).2 ?_
              show Steps p.tables e below (T158.setTop (mkF m 436 #[.val (.int p1), .val (.int p2), .val (.int p3), .val (.int p4), .val (.int p5), .val (.int p6), .val (.int ((p1 &&& (15 : Int32)) + (1 : Int32))), .val (.ref b1), .val (.ref b6), .val (.ref b12), .val (.ref b43), .val (.int (2147483647 : Int32)), .val (.int (m0_115_0 ef)), .val (.int (m0_125_0 ef)), .val (.int (m0_125_1 ef)), .val (.int (m0_122_1 ef)), (m0_125_2 ef)] [])) _
              refine XS.iconst X158.here hx rfl (hb hby at_436) ?_
              show Steps p.tables e below (T158.setTop (mkF m 437 #[.val (.int p1), .val (.int p2), .val (.int p3), .val (.int p4), .val (.int p5), .val (.int p6), .val (.int ((p1 &&& (15 : Int32)) + (1 : Int32))), .val (.ref b1), .val (.ref b6), .val (.ref b12), .val (.ref b43), .val (.int (2147483647 : Int32)), .val (.int (m0_115_0 ef)), .val (.int (m0_125_0 ef)), .val (.int (m0_125_1 ef)), .val (.int (m0_122_1 ef)), (m0_125_2 ef)] [(.int (1 : Int32))])) _
              refine XS.goto X158.here hx rfl (pc0 := 437) (pc' := 441) rfl (hb hby at_437) (by decide) (by decide) ?_
              show Steps p.tables e below (T158.setTop (mkF m 441 #[.val (.int p1), .val (.int p2), .val (.int p3), .val (.int p4), .val (.int p5), .val (.int p6), .val (.int ((p1 &&& (15 : Int32)) + (1 : Int32))), .val (.ref b1), .val (.ref b6), .val (.ref b12), .val (.ref b43), .val (.int (2147483647 : Int32)), .val (.int (m0_115_0 ef)), .val (.int (m0_125_0 ef)), .val (.int (m0_125_1 ef)), .val (.int (m0_122_1 ef)), (m0_125_2 ef)] [(.int (1 : Int32))])) _
              exact retN X158 hx (t := .boolean) Bd.returns (by simp) (hb hby at_441) hr
            · show Q0 Z p1 p2 p3 p4 p5 p6 h0 n0 _ T158.heap _
              exact ⟨rfl, N158⟩
          · obtain ⟨fs, hr, hrun, hended, hW, hsame⟩ := X158.leave (v := some (.int (0 : Int32))) (fun h => by rw [Bd.returns] at h; cases h) hlk
            refine ⟨_, _, pre160 _ ?_, hrun, hended, _, _, rfl, ?_, ⟨_, rfl⟩, hW, hsame.mono (by decide) (by decide)⟩
            · show Steps p.tables e below (T158.setTop (mkF m 433 #[.val (.int p1), .val (.int p2), .val (.int p3), .val (.int p4), .val (.int p5), .val (.int p6), .val (.int ((p1 &&& (15 : Int32)) + (1 : Int32))), .val (.ref b1), .val (.ref b6), .val (.ref b12), .val (.ref b43), .val (.int (2147483647 : Int32)), .val (.int (m0_115_0 ef)), .val (.int (m0_125_0 ef)), .val (.int (m0_125_1 ef)), .val (.int (m0_122_1 ef)), (m0_125_2 ef)] [(.int (m0_122_1 ef)), (.int mv_158)])) _
              refine XS.icmpYes X158.here hx rfl (pc0 := 433) (pc' := 440) rfl (hb hby at_433) rfl (feq hc161).2 (by decide) (by decide) ?_
              show Steps p.tables e below (T158.setTop (mkF m 440 #[.val (.int p1), .val (.int p2), .val (.int p3), .val (.int p4), .val (.int p5), .val (.int p6), .val (.int ((p1 &&& (15 : Int32)) + (1 : Int32))), .val (.ref b1), .val (.ref b6), .val (.ref b12), .val (.ref b43), .val (.int (2147483647 : Int32)), .val (.int (m0_115_0 ef)), .val (.int (m0_125_0 ef)), .val (.int (m0_125_1 ef)), .val (.int (m0_122_1 ef)), (m0_125_2 ef)] [])) _
              refine XS.iconst X158.here hx rfl (hb hby at_440) ?_
              show Steps p.tables e below (T158.setTop (mkF m 441 #[.val (.int p1), .val (.int p2), .val (.int p3), .val (.int p4), .val (.int p5), .val (.int p6), .val (.int ((p1 &&& (15 : Int32)) + (1 : Int32))), .val (.ref b1), .val (.ref b6), .val (.ref b12), .val (.ref b43), .val (.int (2147483647 : Int32)), .val (.int (m0_115_0 ef)), .val (.int (m0_125_0 ef)), .val (.int (m0_125_1 ef)), .val (.int (m0_122_1 ef)), (m0_125_2 ef)] [(.int (0 : Int32))])) _
              exact retN X158 hx (t := .boolean) Bd.returns (by simp) (hb hby at_441) hr
            · show Q0 Z p1 p2 p3 p4 p5 p6 h0 n0 _ T158.heap _
              exact ⟨absurd (own_L3 ef hrg hke P140_11 P140_12 P140_13 P155_11 P155_12 P155_13 P158_6 P158_7) hc161, N158⟩
      · obtain ⟨fs, hr, hrun, hended, hW, hsame⟩ := X143.leave (v := some (.int (0 : Int32))) (fun h => by rw [Bd.returns] at h; cases h) hlk
        refine ⟨_, _, pre145 _ ?_, hrun, hended, _, _, rfl, ?_, ⟨_, rfl⟩, hW, hsame.mono (by decide) (by decide)⟩
        · show Steps p.tables e below (T143.setTop (mkF m 407 #[.val (.int p1), .val (.int p2), .val (.int p3), .val (.int p4), .val (.int p5), .val (.int p6), .val (.int ((p1 &&& (15 : Int32)) + (1 : Int32))), .val (.ref b1), .val (.ref b6), .val (.ref b12), .val (.ref b43), .val (.int (2147483647 : Int32)), .val (.int (m0_115_0 ef)), .val (.int (m0_125_0 ef)), .val (.int (m0_125_1 ef)), .val (.int (m0_122_1 ef)), (m0_125_2 ef)] [(.int (m0_125_1 ef)), (.int mv_143)])) _
          refine XS.icmpNo X143.here hx rfl (hb hby at_407) rfl (feq hc146).1 ?_
          show Steps p.tables e below (T143.setTop (mkF m 410 #[.val (.int p1), .val (.int p2), .val (.int p3), .val (.int p4), .val (.int p5), .val (.int p6), .val (.int ((p1 &&& (15 : Int32)) + (1 : Int32))), .val (.ref b1), .val (.ref b6), .val (.ref b12), .val (.ref b43), .val (.int (2147483647 : Int32)), .val (.int (m0_115_0 ef)), .val (.int (m0_125_0 ef)), .val (.int (m0_125_1 ef)), .val (.int (m0_122_1 ef)), (m0_125_2 ef)] [])) _
          refine XS.iconst X143.here hx rfl (hb hby at_410) ?_
          show Steps p.tables e below (T143.setTop (mkF m 411 #[.val (.int p1), .val (.int p2), .val (.int p3), .val (.int p4), .val (.int p5), .val (.int p6), .val (.int ((p1 &&& (15 : Int32)) + (1 : Int32))), .val (.ref b1), .val (.ref b6), .val (.ref b12), .val (.ref b43), .val (.int (2147483647 : Int32)), .val (.int (m0_115_0 ef)), .val (.int (m0_125_0 ef)), .val (.int (m0_125_1 ef)), .val (.int (m0_122_1 ef)), (m0_125_2 ef)] [(.int (0 : Int32))])) _
          exact retN X143 hx (t := .boolean) Bd.returns (by simp) (hb hby at_411) hr
        · show Q0 Z p1 p2 p3 p4 p5 p6 h0 n0 _ T143.heap _
          exact ⟨absurd (own_L2 ef hrg hke P140_11 P140_12 P140_13 P143_6 P143_7) hc146, N143⟩
  · obtain ⟨fs, hr, hrun, hended, hW, hsame⟩ := X128.leave (v := some (.int (0 : Int32))) (fun h => by rw [Bd.returns] at h; cases h) hlk
    refine ⟨_, _, pre130 _ ?_, hrun, hended, _, _, rfl, ?_, ⟨_, rfl⟩, hW, hsame.mono (by decide) (by decide)⟩
    · show Steps p.tables e below (T128.setTop (mkF m 381 #[.val (.int p1), .val (.int p2), .val (.int p3), .val (.int p4), .val (.int p5), .val (.int p6), .val (.int ((p1 &&& (15 : Int32)) + (1 : Int32))), .val (.ref b1), .val (.ref b6), .val (.ref b12), .val (.ref b43), .val (.int (2147483647 : Int32)), .val (.int (m0_115_0 ef)), .val (.int (m0_125_0 ef)), .val (.int (m0_125_1 ef)), .val (.int (m0_122_1 ef)), (m0_125_2 ef)] [(.int (m0_125_0 ef)), (.int mv_128)])) _
      refine XS.icmpNo X128.here hx rfl (hb hby at_381) rfl (feq hc131).1 ?_
      show Steps p.tables e below (T128.setTop (mkF m 384 #[.val (.int p1), .val (.int p2), .val (.int p3), .val (.int p4), .val (.int p5), .val (.int p6), .val (.int ((p1 &&& (15 : Int32)) + (1 : Int32))), .val (.ref b1), .val (.ref b6), .val (.ref b12), .val (.ref b43), .val (.int (2147483647 : Int32)), .val (.int (m0_115_0 ef)), .val (.int (m0_125_0 ef)), .val (.int (m0_125_1 ef)), .val (.int (m0_122_1 ef)), (m0_125_2 ef)] [])) _
      refine XS.iconst X128.here hx rfl (hb hby at_384) ?_
      show Steps p.tables e below (T128.setTop (mkF m 385 #[.val (.int p1), .val (.int p2), .val (.int p3), .val (.int p4), .val (.int p5), .val (.int p6), .val (.int ((p1 &&& (15 : Int32)) + (1 : Int32))), .val (.ref b1), .val (.ref b6), .val (.ref b12), .val (.ref b43), .val (.int (2147483647 : Int32)), .val (.int (m0_115_0 ef)), .val (.int (m0_125_0 ef)), .val (.int (m0_125_1 ef)), .val (.int (m0_122_1 ef)), (m0_125_2 ef)] [(.int (0 : Int32))])) _
      exact retN X128 hx (t := .boolean) Bd.returns (by simp) (hb hby at_385) hr
    · show Q0 Z p1 p2 p3 p4 p5 p6 h0 n0 _ T128.heap _
      exact ⟨absurd (own_L1 ef hrg hke P128_6 P128_7) hc131, N128⟩
set_option maxRecDepth 65536 in
set_option maxHeartbeats 40000000 in
theorem comes_1 {Post : Tables → Env → Array Value → State → Outcome → State → Prop} (hpost : ∀ tb e args s v u, (limb_1_1.after args s (.returned v) u = true ∧ limb_1_2.after args s (.returned v) u = true ∧ True) → FrameEnd s (.returned v) u (Jvm.fieldLocs frame_1_writes args s ++ Jvm.arrayLocs frame_1_arrays args s ++ Jvm.staticLocs frame_1_statics s) 24 192 → Post tb e args s (.returned v) u) :
    ArmFor flags0 classFile x code maxLocals ret World_1 tables_1 room_1 Calls_1 rest_1 Pre_1 Post := by
  intro l hfl _ _ p e ha hc hk s m args below hf hA hF happ hP
  obtain ⟨hcalls, hrest, hpre⟩ := hP
  obtain ⟨-, -, -, hnamed, -, -, -, hat⟩ := (Spec.applies_iff hf).mp happ
  obtain ⟨hg, hn⟩ := and_e (Cond.before_iff.mp (show (Jvm.Cond.and given_1 narrow_1).before args s = true from hpre))
  obtain ⟨g1, g2⟩ := and_e hg
  obtain ⟨g3, g4⟩ := and_e g2
  obtain ⟨g5, g6⟩ := and_e g4
  obtain ⟨g7, g8⟩ := and_e g6
  obtain ⟨g9, g10⟩ := and_e g8
  obtain ⟨g11, g12⟩ := and_e g10
  obtain ⟨w0, w1, w2, w3, w4, w5, rfl⟩ : ∃ w0 w1 w2 w3 w4 w5 : Value, args = #[w0, w1, w2, w3, w4, w5] := by
    have hs : args.size = 6 := by simpa [Cond.value, given_1] using g1
    obtain ⟨L⟩ := args
    match L, hs with
    | [w0, w1, w2, w3, w4, w5], _ => exact ⟨w0, w1, w2, w3, w4, w5, rfl⟩
  have hw := fun d (hd : d ∈ tables_1) => atoms_spec (ws := Jvm.Cond.code x code maxLocals ret :: tables_1) hat d (List.mem_cons_of_mem _ hd)
  have hfit : Fit s := fun {y c} hc i hi => by
    obtain ⟨ha, rfl⟩ := Array.getElem?_eq_some_iff.mp hc
    have q := List.all_eq_true.mp ((Array.all_eq_true_iff_forall_mem.mp hF) _ (Array.getElem_mem ha)) i (List.mem_range.mpr hi)
    simpa [Array.getElem?_eq_getElem hi] using q
  obtain ⟨i0, ei0⟩ := is_v g3
  obtain rfl : w0 = (.int i0) := Option.some.inj ei0
  obtain ⟨i1, ei1⟩ := is_v g5
  obtain rfl : w1 = (.int i1) := Option.some.inj ei1
  obtain ⟨i2, ei2⟩ := is_v g7
  obtain rfl : w2 = (.int i2) := Option.some.inj ei2
  obtain ⟨i3, ei3⟩ := is_v g9
  obtain rfl : w3 = (.int i3) := Option.some.inj ei3
  obtain ⟨i4, ei4⟩ := is_v g11
  obtain rfl : w4 = (.int i4) := Option.some.inj ei4
  obtain ⟨i5, ei5⟩ := is_v g12
  obtain rfl : w5 = (.int i5) := Option.some.inj ei5
  obtain ⟨n, o, h1, h2, h3, _, L, rfl, ⟨rfl, N⟩, hq⟩ := rm0 l s _ hw tables_1 i0 i1 i2 i3 i4 i5 s.heap s.heap.size (Nat.le_refl _) p e ha hc hk s m _ below hf ((Spec.applies_iff_loose hf).mp happ).1 ⟨rfl, State.Warmed39.refl s, rfl⟩ trivial
  refine ⟨n, _, h1, h2, h3, hpost _ _ _ _ _ _ ⟨Cond.after_iff.mpr rfl, Cond.after_iff.mpr (eq_i res_at (Term.int_eval (1)) rfl), trivial⟩ ⟨hq.1, hq.2.1, (hq.2.2.sift fun y hy => Or.inr (N y hy)).mono (by decide) (by decide)⟩⟩
theorem main_1_1 : Claimed_1_1 := comes_1 fun _ _ _ _ _ _ h hF => ⟨h.1, hF⟩
theorem main_1_2 : Claimed_1_2 := comes_1 fun _ _ _ _ _ _ h hF => ⟨h.2.1, hF⟩
end Jvm.Pilot.@@N@@
namespace Jvm.Pilot.@@N@@
open Jvm Jvm.ClassFile Sem Op Lib Jvm.Free Jvm.Stand Jvm.Pilot.@@N@@.Jvm.D
/-! MADE BY PROGRAM (witnessworld.py) out of the Statement's table words and the real class files: 10 classes; the members and pool entries that the words name. The judged class is class 1, her method 2. -/
namespace start1
open Jvm.ClassFile
def u (s : String) : CpInfo := .utf8 (stringToUtf16 s)
/-- a pool by its gaps: so many unusable entries, then the entry; so many at the end -/
def gap : Nat → List CpInfo → List CpInfo
  | 0, r => r
  | n + 1, r => .unusable :: gap n r
def poolList (es : List (Nat × CpInfo)) (last : Nat) : List CpInfo := es.foldr (fun e r => gap e.1 (e.2 :: r)) (gap last [])
def pool (es : List (Nat × CpInfo)) (last : Nat) : Array CpInfo := ⟨poolList es last⟩
def fileOf (pool : Array CpInfo) (this : Nat) (attrs : Array Attribute := #[]) (ms : Array MethodInfo := #[]) (fl : Nat := 33) (sup : Nat := 0) (ifs : Array Nat := #[]) (fds : Array FieldInfo := #[]) : ClassFile where
  minorVersion := 0
  majorVersion := 65
  constantPool := pool
  accessFlags := fl
  thisClass := this
  superClass := sup
  interfaces := ifs
  fields := fds
  methods := ms
  attributes := attrs
def plain (name : String) (sup : Option ClassId) : Class where
  name := name
  kind := .ordinary
  loader := none
  accessFlags := 33
  super := sup
  interfaces := #[]
  cf := none
  fields := #[]
  methods := #[]
  instanceTypes := #[]
  staticTypes := #[]
  resolved := #[]
  callSites := []
  init := .initialized
  statics := none
  mirror := none

def pool0 : Array CpInfo := pool [(5, u "<init>"), (0, u "()V"), (1, .class_ 10), (1, u "java/lang/Object")] 113

def k0c0 : Code := { maxStack := 0, maxLocals := 1, code := object_method_1_code, exceptionTable := #[], attributes := #[] }
def k0m0 : Method := { name := "<init>", desc := "()V", sig := { parameters := [], returnType := none }, accessFlags := 1, code := some k0c0 }
/-- java/lang/Object -/
def k0 : Class := { plain "java/lang/Object" none with
  accessFlags := 33
  interfaces := #[]
  cf := some (fileOf pool0 8 #[] #[{ accessFlags := 1, nameIndex := 5, descriptorIndex := 6, attributes := #[] }] 33 0 #[] #[])
  fields := #[]
  methods := #[k0m0]
  instanceTypes := #[]
  staticTypes := #[]
  resolved := Array.replicate 124 none
  statics := none }

def pool1 : Array CpInfo := pool [(2, .class_ 4), (1, u "java/lang/Object"), (0, u "<init>"), (0, u "()V"), (0, .integer 2147483647), (0, .methodref 9 10), (0, .class_ 11), (0, .nameAndType 12 13), (0, u "com/example/hindsight/hindsight/solvers/BucketQueueMinKeyPinLaw"), (0, u "note"), (0, u "([III)V"), (0, .class_ 15), (0, u "com/example/hindsight/hindsight/solvers/BucketQueue"), (0, .methodref 14 17), (0, .nameAndType 5 18), (0, u "(II)V"), (0, .methodref 14 20), (0, .nameAndType 21 18), (0, u "offer"), (2, .methodref 14 25), (0, .nameAndType 26 27), (0, u "minKey"), (0, u "()I"), (0, .methodref 14 29), (0, .nameAndType 30 27), (0, u "popMin"), (3, u "law"), (0, u "(IIIIII)Z")] 4

def k1m0 : Method := { name := "<init>", desc := "()V", sig := { parameters := [], returnType := none }, accessFlags := 1, code := none }
def k1c1 : Code := { maxStack := 3, maxLocals := 3, code := method_2_code, exceptionTable := #[], attributes := #[] }
def k1m1 : Method := { name := "note", desc := "([III)V", sig := { parameters := [(.array .int), .int, .int], returnType := none }, accessFlags := 10, code := some k1c1 }
def k1c2 : Code := { maxStack := 5, maxLocals := 17, code := code, exceptionTable := #[], attributes := #[] }
def k1m2 : Method := { name := "law", desc := "(IIIIII)Z", sig := { parameters := [.int, .int, .int, .int, .int, .int], returnType := some .boolean }, accessFlags := 9, code := some k1c2 }
/-- com/example/hindsight/hindsight/solvers/BucketQueueMinKeyPinLaw -/
def k1 : Class := { plain "com/example/hindsight/hindsight/solvers/BucketQueueMinKeyPinLaw" (some 0) with
  accessFlags := 49
  interfaces := #[]
  cf := some (fileOf pool1 9 #[] #[{ accessFlags := 1, nameIndex := 5, descriptorIndex := 6, attributes := #[] }, { accessFlags := 10, nameIndex := 12, descriptorIndex := 13, attributes := #[] }, { accessFlags := 9, nameIndex := 34, descriptorIndex := 35, attributes := #[] }] 49 2 #[] #[])
  fields := #[]
  methods := #[k1m0, k1m1, k1m2]
  instanceTypes := #[]
  staticTypes := #[]
  resolved := Array.replicate 40 none
  statics := none }

def pool2 : Array CpInfo := pool [(1, .methodref 2 3), (0, .class_ 4), (0, .nameAndType 5 6), (0, u "java/lang/Object"), (0, u "<init>"), (0, u "()V"), (0, .fieldref 8 9), (0, .class_ 10), (0, .nameAndType 11 12), (0, u "com/example/hindsight/hindsight/solvers/BucketQueue"), (0, u "first"), (0, u "[I"), (0, .fieldref 8 14), (0, .nameAndType 15 12), (0, u "next"), (0, .fieldref 8 17), (0, .nameAndType 18 12), (0, u "previous"), (0, .fieldref 8 20), (0, .nameAndType 21 12), (0, u "keyOf"), (0, .methodref 23 24), (0, .class_ 25), (0, .nameAndType 26 27), (0, u "java/util/Arrays"), (0, u "fill"), (0, u "([II)V"), (0, .fieldref 8 29), (0, .nameAndType 30 31), (0, u "size"), (0, u "I"), (2, u "popMin"), (0, u "()I"), (0, .fieldref 8 37), (0, .nameAndType 38 31), (0, u "cursor"), (12, .methodref 8 52), (0, .nameAndType 53 54), (0, u "unlink"), (0, u "(II)V"), (0, .methodref 8 56), (0, .nameAndType 57 35), (0, u "minKey"), (0, u "NONE"), (8, u "offer")] 17

def k2c0 : Code := { maxStack := 3, maxLocals := 3, code := prog_46_method_1_code, exceptionTable := #[], attributes := #[] }
def k2m0 : Method := { name := "<init>", desc := "(II)V", sig := { parameters := [.int, .int], returnType := none }, accessFlags := 0, code := some k2c0 }
def k2c1 : Code := { maxStack := 5, maxLocals := 5, code := prog_46_method_5_code, exceptionTable := #[], attributes := #[] }
def k2m1 : Method := { name := "offer", desc := "(II)V", sig := { parameters := [.int, .int], returnType := none }, accessFlags := 0, code := some k2c1 }
def k2c2 : Code := { maxStack := 3, maxLocals := 1, code := prog_46_method_6_code, exceptionTable := #[], attributes := #[] }
def k2m2 : Method := { name := "minKey", desc := "()I", sig := { parameters := [], returnType := some .int }, accessFlags := 0, code := some k2c2 }
def k2c3 : Code := { maxStack := 3, maxLocals := 2, code := prog_46_method_7_code, exceptionTable := #[], attributes := #[] }
def k2m3 : Method := { name := "popMin", desc := "()I", sig := { parameters := [], returnType := some .int }, accessFlags := 0, code := some k2c3 }
def k2c4 : Code := { maxStack := 3, maxLocals := 5, code := prog_46_method_8_code, exceptionTable := #[], attributes := #[] }
def k2m4 : Method := { name := "unlink", desc := "(II)V", sig := { parameters := [.int, .int], returnType := none }, accessFlags := 2, code := some k2c4 }
/-- com/example/hindsight/hindsight/solvers/BucketQueue -/
def k2 : Class := { plain "com/example/hindsight/hindsight/solvers/BucketQueue" (some 0) with
  accessFlags := 48
  interfaces := #[]
  cf := some (fileOf pool2 8 #[] #[{ accessFlags := 0, nameIndex := 5, descriptorIndex := 54, attributes := #[] }, { accessFlags := 0, nameIndex := 67, descriptorIndex := 54, attributes := #[] }, { accessFlags := 0, nameIndex := 57, descriptorIndex := 35, attributes := #[] }, { accessFlags := 0, nameIndex := 34, descriptorIndex := 35, attributes := #[] }, { accessFlags := 2, nameIndex := 53, descriptorIndex := 54, attributes := #[] }] 48 2 #[] #[{ accessFlags := 26, nameIndex := 58, descriptorIndex := 31, attributes := #[] }, { accessFlags := 18, nameIndex := 11, descriptorIndex := 12, attributes := #[] }, { accessFlags := 18, nameIndex := 15, descriptorIndex := 12, attributes := #[] }, { accessFlags := 18, nameIndex := 18, descriptorIndex := 12, attributes := #[] }, { accessFlags := 18, nameIndex := 21, descriptorIndex := 12, attributes := #[] }, { accessFlags := 2, nameIndex := 38, descriptorIndex := 31, attributes := #[] }, { accessFlags := 2, nameIndex := 30, descriptorIndex := 31, attributes := #[] }])
  fields := #[{ name := "NONE", type := .int, accessFlags := 26, slot := 0, constantValue := 0 }, { name := "first", type := (.array .int), accessFlags := 18, slot := 0, constantValue := 0 }, { name := "next", type := (.array .int), accessFlags := 18, slot := 1, constantValue := 0 }, { name := "previous", type := (.array .int), accessFlags := 18, slot := 2, constantValue := 0 }, { name := "keyOf", type := (.array .int), accessFlags := 18, slot := 3, constantValue := 0 }, { name := "cursor", type := .int, accessFlags := 2, slot := 4, constantValue := 0 }, { name := "size", type := .int, accessFlags := 2, slot := 5, constantValue := 0 }]
  methods := #[k2m0, k2m1, k2m2, k2m3, k2m4]
  instanceTypes := #[(.array .int), (.array .int), (.array .int), (.array .int), .int, .int]
  staticTypes := #[.int]
  resolved := Array.replicate 85 none
  statics := none }

def pool3 : Array CpInfo := pool [(2, .class_ 4), (1, u "java/lang/Object"), (0, u "<init>"), (0, u "()V"), (7, .class_ 16), (1, u "java/util/Arrays"), (57, .class_ 76), (1, u "java/util/Arrays$NaturalOrder"), (36, .class_ 115), (1, u "java/util/Arrays$LegacyMergeSort"), (1, u "Z"), (257, .class_ 376), (0, u "java/util/Arrays$ArrayList"), (68, u "$assertionsDisabled"), (269, u "MIN_ARRAY_SORT_GRAN"), (0, u "I"), (2, u "INSERTIONSORT_THRESHOLD"), (120, u "fill"), (4, u "([II)V"), (129, .class_ 976), (0, u "java/util/Arrays$ArrayItr")] 52

def k3m0 : Method := { name := "<init>", desc := "()V", sig := { parameters := [], returnType := none }, accessFlags := 2, code := none }
def k3c1 : Code := { maxStack := 3, maxLocals := 4, code := jdk_65_method_103_code, exceptionTable := #[], attributes := #[] }
def k3m1 : Method := { name := "fill", desc := "([II)V", sig := { parameters := [(.array .int), .int], returnType := none }, accessFlags := 9, code := some k3c1 }
/-- java/util/Arrays -/
def k3 : Class := { plain "java/util/Arrays" (some 0) with
  accessFlags := 49
  interfaces := #[]
  cf := some (fileOf pool3 14 #[.nestMembers #[975, 375, 113, 74]] #[{ accessFlags := 2, nameIndex := 5, descriptorIndex := 6, attributes := #[] }, { accessFlags := 9, nameIndex := 840, descriptorIndex := 845, attributes := #[] }] 49 2 #[] #[{ accessFlags := 26, nameIndex := 715, descriptorIndex := 716, attributes := #[] }, { accessFlags := 26, nameIndex := 719, descriptorIndex := 716, attributes := #[] }, { accessFlags := 4120, nameIndex := 445, descriptorIndex := 117, attributes := #[] }])
  fields := #[{ name := "MIN_ARRAY_SORT_GRAN", type := .int, accessFlags := 26, slot := 0, constantValue := 0 }, { name := "INSERTIONSORT_THRESHOLD", type := .int, accessFlags := 26, slot := 1, constantValue := 0 }, { name := "$assertionsDisabled", type := .boolean, accessFlags := 4120, slot := 2, constantValue := 0 }]
  methods := #[k3m0, k3m1]
  instanceTypes := #[]
  staticTypes := #[.int, .int, .boolean]
  resolved := Array.replicate 1029 none
  statics := none }

def pool4 : Array CpInfo := pool [(1, u "java/lang/Cloneable"), (0, .class_ 1), (0, u "java/lang/Object"), (0, .class_ 3)] 3

/-- java/lang/Cloneable -/
def k4 : Class := { plain "java/lang/Cloneable" (some 0) with
  accessFlags := 1537
  interfaces := #[]
  cf := some (fileOf pool4 2 #[] #[] 1537 4 #[] #[])
  fields := #[]
  methods := #[]
  instanceTypes := #[]
  staticTypes := #[]
  resolved := Array.replicate 8 none
  statics := none }

def pool5 : Array CpInfo := pool [(1, u "java/io/Serializable"), (0, .class_ 1), (0, u "java/lang/Object"), (0, .class_ 3)] 3

/-- java/io/Serializable -/
def k5 : Class := { plain "java/io/Serializable" (some 0) with
  accessFlags := 1537
  interfaces := #[]
  cf := some (fileOf pool5 2 #[] #[] 1537 4 #[] #[])
  fields := #[]
  methods := #[]
  instanceTypes := #[]
  staticTypes := #[]
  resolved := Array.replicate 8 none
  statics := none }

/-- the primitive byte -/
def k6 : Class := { plain "byte" none with kind := .primitive 'B', accessFlags := 0x411 }
/-- [B -/
def k7 : Class := { plain "[B" (some 0) with kind := .array 6 .byte, interfaces := #[4, 5], accessFlags := 1041 }

/-- the primitive int -/
def k8 : Class := { plain "int" none with kind := .primitive 'I', accessFlags := 0x411 }
/-- [I -/
def k9 : Class := { plain "[I" (some 0) with kind := .array 8 .int, interfaces := #[4, 5], accessFlags := 1041 }

def heap : Heap := #[]
def classes : Array Class := #[k0, k1, k2, k3, k4, k5, k6, k7, k8, k9]
def interned : List (Array UInt16 × Addr) := []
def slotsUsed : Nat := 0
def theMethod : MethodId := ⟨1, 2⟩
def args0 : Array Value := #[.int 5, .int 6, .int 7, .int 8, .int 9, .int 10]
def aboutOver (below : List Frame) : State where
  vm := { classes := classes, interned := interned.toArray }
  heap := heap
  slotsUsed := slotsUsed
  threads := #[{ frames := .invoking theMethod args0 :: below }]
def below0 : List Frame := [.native { method := ⟨0, 0⟩, args := #[] }]
def about1 : State := aboutOver below0
def p0 : Program := .bare "" "" ""
def e0 : Env := launch0.env 0 0 0
theorem w_frames : about1.frames = Frame.invoking theMethod args0 :: below0 := rfl
set_option maxRecDepth 65536 in
theorem w_args : argsFit about1.vm theMethod args0 = true := by decide +kernel
set_option maxRecDepth 65536 in
theorem w_heap : heapFits about1 = true := by decide +kernel
set_option maxRecDepth 65536 in
theorem w_runnable : about1.curStatus? = some .runnable := by decide +kernel
set_option maxRecDepth 65536 in
theorem w_alone : about1.alone = true := by decide +kernel
set_option maxRecDepth 65536 in
theorem w_named : about1.methodNamed? x = some theMethod := by decide +kernel
set_option maxRecDepth 65536 in
theorem w_hears : about1.hears theMethod below0 = true := by decide +kernel
set_option maxRecDepth 65536 in
theorem w_ripe : about1.ripe theMethod args0 below0 = true := by decide +kernel
theorem w_running : about1.status = .running := rfl
set_option maxRecDepth 65536 in
theorem w_room : about1.hasRoom e0.platform room_1 = true :=
  launch0.hasRoom_least _ room_1 (by decide +kernel) (by decide +kernel) (by decide +kernel) (by decide +kernel) (by decide +kernel) (by decide +kernel)
theorem allAtoms_all (ts : List Jvm.Cond) (a : Array Jvm.Value) (st : Jvm.State) : (allAtoms ts).before a st = ts.all (fun c => c.before a st) := by
  induction ts with
  | nil => rfl
  | cons c t ih =>
    show (Jvm.Cond.and c (allAtoms t)).before a st = _
    rw [Jvm.Cond.before_and, ih, List.all_cons]
def words1 : List Jvm.Cond := Jvm.Cond.code x code maxLocals ret :: tables_1
/-- a 'code' word, met by the world's own term for the bytes: nothing is compared byte by byte -/
theorem code_word {y : MethodName} {bytes : ByteArray} {mx : Nat} {rt : Option FieldType} {a : Array Value} {s : State} {m : MethodId} {meth : Method} {c : Code} (h1 : s.methodNamed? y = some m) (h2 : s.vm.method? m = some meth) (h3 : meth.code = some c) (h4 : c.code = bytes)
    (h5 : (c.maxLocals == mx && c.exceptionTable.isEmpty && decide (c.maxStack ≤ mostOperands) && decide (meth.sig.returnType = rt) && !meth.locks && decide (parseMethodDescriptor y.desc = some meth.sig)) = true) : (Jvm.Cond.code y bytes mx rt).before a s = true := by
  simp only [Bool.and_eq_true, beq_iff_eq, Bool.not_eq_true', decide_eq_true_eq] at h5
  obtain ⟨⟨⟨⟨⟨g1, g2⟩, g3⟩, g4⟩, g5⟩, g6⟩ := h5
  simp [Cond.before, Cond.holds, Cond.value, h1, h2, h3, h4, g1, g2, g3, g4, g5, g6]
def isCode : Jvm.Cond → Bool
  | .code _ _ _ _ => true
  | _ => false
theorem all_split {L : List Jvm.Cond} {P : Jvm.Cond → Bool} (h1 : L.all (fun c => isCode c || P c) = true) (h2 : ∀ c ∈ L.filter isCode, P c = true) : L.all P = true := by
  refine List.all_eq_true.mpr fun c hc => ?_
  have h := List.all_eq_true.mp h1 c hc
  rcases Bool.eq_false_or_eq_true (isCode c) with hi | hi
  · exact h2 c (List.mem_filter.mpr ⟨hc, hi⟩)
  · simpa [hi] using h
set_option maxRecDepth 65536 in
theorem w_c0 : (Jvm.Cond.code x code maxLocals ret).before args0 about1 = true := code_word (m := ⟨1, 2⟩) (meth := k1m2) (c := k1c2) (by decide +kernel) rfl rfl rfl (by decide +kernel)
set_option maxRecDepth 65536 in
theorem w_c1 : (Jvm.Cond.code ({ cls := "com/example/hindsight/hindsight/solvers/BucketQueueMinKeyPinLaw", name := "note", desc := "([III)V" } : Jvm.MethodName) method_2_code (3 : Nat) (Option.none : Option Jvm.ClassFile.FieldType)).before args0 about1 = true := code_word (m := ⟨1, 1⟩) (meth := k1m1) (c := k1c1) (by decide +kernel) rfl rfl rfl (by decide +kernel)
set_option maxRecDepth 65536 in
theorem w_c2 : (Jvm.Cond.code ({ cls := "com/example/hindsight/hindsight/solvers/BucketQueue", name := "<init>", desc := "(II)V" } : Jvm.MethodName) prog_46_method_1_code (3 : Nat) (Option.none : Option Jvm.ClassFile.FieldType)).before args0 about1 = true := code_word (m := ⟨2, 0⟩) (meth := k2m0) (c := k2c0) (by decide +kernel) rfl rfl rfl (by decide +kernel)
set_option maxRecDepth 65536 in
theorem w_c3 : (Jvm.Cond.code ({ cls := "java/lang/Object", name := "<init>", desc := "()V" } : Jvm.MethodName) object_method_1_code (1 : Nat) (Option.none : Option Jvm.ClassFile.FieldType)).before args0 about1 = true := code_word (m := ⟨0, 0⟩) (meth := k0m0) (c := k0c0) (by decide +kernel) rfl rfl rfl (by decide +kernel)
set_option maxRecDepth 65536 in
theorem w_c4 : (Jvm.Cond.code ({ cls := "java/util/Arrays", name := "fill", desc := "([II)V" } : Jvm.MethodName) jdk_65_method_103_code (4 : Nat) (Option.none : Option Jvm.ClassFile.FieldType)).before args0 about1 = true := code_word (m := ⟨3, 1⟩) (meth := k3m1) (c := k3c1) (by decide +kernel) rfl rfl rfl (by decide +kernel)
set_option maxRecDepth 65536 in
theorem w_c5 : (Jvm.Cond.code ({ cls := "com/example/hindsight/hindsight/solvers/BucketQueue", name := "offer", desc := "(II)V" } : Jvm.MethodName) prog_46_method_5_code (5 : Nat) (Option.none : Option Jvm.ClassFile.FieldType)).before args0 about1 = true := code_word (m := ⟨2, 1⟩) (meth := k2m1) (c := k2c1) (by decide +kernel) rfl rfl rfl (by decide +kernel)
set_option maxRecDepth 65536 in
theorem w_c6 : (Jvm.Cond.code ({ cls := "com/example/hindsight/hindsight/solvers/BucketQueue", name := "minKey", desc := "()I" } : Jvm.MethodName) prog_46_method_6_code (1 : Nat) (Option.some Jvm.ClassFile.FieldType.int)).before args0 about1 = true := code_word (m := ⟨2, 2⟩) (meth := k2m2) (c := k2c2) (by decide +kernel) rfl rfl rfl (by decide +kernel)
set_option maxRecDepth 65536 in
theorem w_c7 : (Jvm.Cond.code ({ cls := "com/example/hindsight/hindsight/solvers/BucketQueue", name := "popMin", desc := "()I" } : Jvm.MethodName) prog_46_method_7_code (2 : Nat) (Option.some Jvm.ClassFile.FieldType.int)).before args0 about1 = true := code_word (m := ⟨2, 3⟩) (meth := k2m3) (c := k2c3) (by decide +kernel) rfl rfl rfl (by decide +kernel)
set_option maxRecDepth 65536 in
theorem w_c8 : (Jvm.Cond.code ({ cls := "com/example/hindsight/hindsight/solvers/BucketQueue", name := "unlink", desc := "(II)V" } : Jvm.MethodName) prog_46_method_8_code (5 : Nat) (Option.none : Option Jvm.ClassFile.FieldType)).before args0 about1 = true := code_word (m := ⟨2, 4⟩) (meth := k2m4) (c := k2c4) (by decide +kernel) rfl rfl rfl (by decide +kernel)
def codes1 : List Jvm.Cond := [Jvm.Cond.code x code maxLocals ret, Jvm.Cond.code ({ cls := "com/example/hindsight/hindsight/solvers/BucketQueueMinKeyPinLaw", name := "note", desc := "([III)V" } : Jvm.MethodName) method_2_code (3 : Nat) (Option.none : Option Jvm.ClassFile.FieldType), Jvm.Cond.code ({ cls := "com/example/hindsight/hindsight/solvers/BucketQueue", name := "<init>", desc := "(II)V" } : Jvm.MethodName) prog_46_method_1_code (3 : Nat) (Option.none : Option Jvm.ClassFile.FieldType), Jvm.Cond.code ({ cls := "java/lang/Object", name := "<init>", desc := "()V" } : Jvm.MethodName) object_method_1_code (1 : Nat) (Option.none : Option Jvm.ClassFile.FieldType), Jvm.Cond.code ({ cls := "java/util/Arrays", name := "fill", desc := "([II)V" } : Jvm.MethodName) jdk_65_method_103_code (4 : Nat) (Option.none : Option Jvm.ClassFile.FieldType), Jvm.Cond.code ({ cls := "com/example/hindsight/hindsight/solvers/BucketQueue", name := "offer", desc := "(II)V" } : Jvm.MethodName) prog_46_method_5_code (5 : Nat) (Option.none : Option Jvm.ClassFile.FieldType), Jvm.Cond.code ({ cls := "com/example/hindsight/hindsight/solvers/BucketQueue", name := "minKey", desc := "()I" } : Jvm.MethodName) prog_46_method_6_code (1 : Nat) (Option.some Jvm.ClassFile.FieldType.int), Jvm.Cond.code ({ cls := "com/example/hindsight/hindsight/solvers/BucketQueue", name := "popMin", desc := "()I" } : Jvm.MethodName) prog_46_method_7_code (2 : Nat) (Option.some Jvm.ClassFile.FieldType.int), Jvm.Cond.code ({ cls := "com/example/hindsight/hindsight/solvers/BucketQueue", name := "unlink", desc := "(II)V" } : Jvm.MethodName) prog_46_method_8_code (5 : Nat) (Option.none : Option Jvm.ClassFile.FieldType)]
set_option maxRecDepth 65536 in
theorem codes_eq : words1.filter isCode = codes1 := rfl
theorem w_codes : ∀ c ∈ words1.filter isCode, c.before args0 about1 = true := by
  rw [codes_eq]
  intro c hc
  simp only [codes1, List.mem_cons, List.not_mem_nil, or_false] at hc
  rcases hc with rfl | rfl | rfl | rfl | rfl | rfl | rfl | rfl | rfl
  · exact w_c0
  · exact w_c1
  · exact w_c2
  · exact w_c3
  · exact w_c4
  · exact w_c5
  · exact w_c6
  · exact w_c7
  · exact w_c8
set_option maxRecDepth 65536 in
theorem w_t1 : (words1.take 24).all (fun c => isCode c || c.before args0 about1) = true := by decide +kernel
set_option maxRecDepth 65536 in
theorem w_t2 : ((words1.drop 24).take 24).all (fun c => isCode c || c.before args0 about1) = true := by decide +kernel
set_option maxRecDepth 65536 in
theorem w_t3 : ((words1.drop 24).drop 24).all (fun c => isCode c || c.before args0 about1) = true := by decide +kernel
theorem w_tables : (allAtoms (Jvm.Cond.code x code maxLocals ret :: tables_1)).before args0 about1 = true := by
  rw [allAtoms_all]
  show words1.all (fun c => c.before args0 about1) = true
  refine all_split ?_ w_codes
  rw [← List.take_append_drop 24 words1, List.all_append, w_t1, ← List.take_append_drop 24 (words1.drop 24), List.all_append, w_t2, w_t3]
  rfl
set_option maxRecDepth 65536 in
theorem w_case : (Jvm.Cond.and given_1 narrow_1).before args0 about1 = true := by decide +kernel
theorem w_applies : (headSpec (Jvm.Cond.code x code maxLocals ret :: tables_1) room_1).applies x e0.platform about1 = true :=
  (Spec.applies_iff w_frames).mpr ⟨w_running, w_runnable, w_alone, w_named, w_hears, w_ripe, w_room, w_tables⟩
theorem atStart : AtStart classFile x code maxLocals ret World_1 tables_1 room_1 Calls_1 rest_1 Pre_1 launch0 p0 e0 about1 theMethod args0 below0 :=
  ⟨lists_1, trivial, launch0.admits_env _ _ _, launch0.least_env, fairChoices_fair.cas, fairChoices_fair.clock, w_frames, w_args, w_heap, w_applies, trivial, trivial, w_case⟩
end start1
theorem witness_1 : WitnessClaimed_1 := ⟨start1.p0, start1.e0, start1.about1, start1.theMethod, start1.args0, start1.below0, start1.atStart⟩
end Jvm.Pilot.@@N@@

import JvmDerived
import JvmDerived.Pilot.@@N@@Statement
import JvmDerived.Pilot.@@N@@Code
set_option linter.unusedVariables false
set_option linter.unusedSimpArgs false
@@BLOCK:NumsL.lean.txt@@
namespace Jvm.RoadKit
open Sem ClassFile Op Lib Jvm.Stand Jvm.Free Jvm.LawKit
section New
variable {p : Program} {l : Launch} {e : Env} {R : Room} {s : State} {m : MethodId} {args : Array Value} {below : List Frame} {meth : Method} {c : Code} {T : State} {locs : List Loc} {cells slots : Nat}
theorem retI (X : Stand p l e R s m args below meth c T locs cells slots) (hx : p.tables.exec = Jvm.exec) {pc : Nat} {Ls : Array Slot} {z : Int32} {rest : List Value} (hret : meth.sig.returnType = some .int) (hd : decode c.code pc = .ok (.ireturn, 1)) {fs : List Frame}
    (hl : ∀ (f : JFrame) (acts : List Action), f.method = m → f.locked = none → f.entered = [] → (doReturn e (T.setTop f) acts (some (.int z))).1 = T.setFrames fs) : Steps p.tables e below (T.setTop (mkF m pc Ls (.int z :: rest))) (T.setFrames fs) := by
  have hm' : T.vm.method? m = some meth := X.method'
  have hn : narrow .int (.int z) = .int z := rfl
  show Steps p.tables e below (T.setTop { method := m, pc := pc, locals := Ls, stack := _ :: rest, locked := none }) _
  jvm_step X.here [X.here.top, hx, hd, hm', hret, hn]
  first | (intro acts; rw [hl _ acts rfl rfl rfl]) | rw [hl _ _ rfl rfl rfl]
  exact Steps.refl _
end New
end Jvm.RoadKit
namespace Jvm.Pilot.@@N@@
open Jvm Jvm.ClassFile Sem Op Lib Jvm.Free Jvm.Stand Jvm.LawKit Jvm.RoadKit Bundle Jvm.Pilot.@@N@@.Jvm.D


/-! arrays: what an array holds, as a list of values (AV) or as a function of the place (AI) -/
def AV (Z : State) (h : Heap) (a : Addr) (ty : FieldType) (z : Int32) (vs : List Value) : Prop := ∃ c : Cell, Arr Z h a c ty ∧ c.slots = vs.toArray ∧ vs.length = z.toNatClampNeg ∧ ¬ z < 0
def AI (Z : State) (h : Heap) (a : Addr) (ty : FieldType) (z : Int32) (f : Nat → Int32) : Prop := ∃ c : Cell, Arr Z h a c ty ∧ c.slots.size = z.toNatClampNeg ∧ ¬ z < 0 ∧ ∀ i, i < z.toNatClampNeg → c.slots[i]? = some (.int (f i))
section Arrays
variable {Z : State} {h h' : Heap} {a b : Addr} {ty : FieldType} {z j : Int32} {vs : List Value} {f : Nat → Int32} {sl : Nat} {v : Value} {ws : List Addr} {k : ClassId}
theorem AV.lt (F : AV Z h a ty z vs) : a < h.size := by obtain ⟨c, A, -⟩ := F; exact A.lt
theorem AI.lt (F : AI Z h a ty z f) : a < h.size := by obtain ⟨c, A, -⟩ := F; exact A.lt
theorem AV.ext (F : AV Z h a ty z vs) (E : Ext h h') : AV Z h' a ty z vs := by obtain ⟨c, A, r⟩ := F; exact ⟨c, Arr.ext E A, r⟩
theorem AI.ext (F : AI Z h a ty z f) (E : Ext h h') : AI Z h' a ty z f := by obtain ⟨c, A, r⟩ := F; exact ⟨c, Arr.ext E A, r⟩
theorem AV.other (F : AV Z h b ty z vs) (W : Wr h h' a sl v) (q : b ≠ a) : AV Z h' b ty z vs := by obtain ⟨c, A, r⟩ := F; exact ⟨c, Arr.other W A q, r⟩
theorem AI.other (F : AI Z h b ty z f) (W : Wr h h' a sl v) (q : b ≠ a) : AI Z h' b ty z f := by obtain ⟨c, A, r⟩ := F; exact ⟨c, Arr.other W A q, r⟩
theorem AV.keep (F : AV Z h a ty z vs) (K : Keep h h' ws) (q : a ∉ ws) : AV Z h' a ty z vs := by obtain ⟨c, A, r⟩ := F; exact ⟨c, ⟨K.2.1 _ _ A.1 q, A.2⟩, r⟩
theorem AI.keep (F : AI Z h a ty z f) (K : Keep h h' ws) (q : a ∉ ws) : AI Z h' a ty z f := by obtain ⟨c, A, r⟩ := F; exact ⟨c, ⟨K.2.1 _ _ A.1 q, A.2⟩, r⟩
theorem AV.new (A : Arr Z h a (newA k ty z) ty) (q : ¬ z < 0) : AV Z h a ty z (List.replicate z.toNatClampNeg (defaultValue ty)) := ⟨_, A, by simp [newA], by simp, q⟩
theorem AI.new {d : Int32} (A : Arr Z h a (newA k ty z) ty) (q : ¬ z < 0) (hd : defaultValue ty = .int d) : AI Z h a ty z (fun _ => d) := ⟨_, A, sz_new k ty z, q, fun i hi => by simp [newA, hi, hd]⟩
theorem AV.set {c : Cell} (A : Arr Z h a c ty) (S : c.slots = vs.toArray) (N : vs.length = z.toNatClampNeg) (q : ¬ z < 0) (W : Wr h h' a sl v) : AV Z h' a ty z (vs.set sl v) := by
  refine ⟨_, Arr.same W A, ?_, by simpa using N, q⟩
  simp [Cell.setSlot, S]
theorem AI.set {c : Cell} {x : Int32} (A : Arr Z h a c ty) (S : c.slots.size = z.toNatClampNeg) (q : ¬ z < 0) (G : ∀ i, i < z.toNatClampNeg → c.slots[i]? = some (.int (f i))) (W : Wr h h' a sl (.int x)) : AI Z h' a ty z (fun i => if i = sl then x else f i) := by
  obtain ⟨c', e1, -, -, e4, -, e6, e7⟩ := wr_at W A.1
  have A' := Arr.same W A
  obtain rfl : c' = c.setSlot sl (.int x) := (e7 rfl).1
  refine ⟨_, A', by rw [e4]; exact S, q, fun i hi => ?_⟩
  by_cases hc : i = sl
  · subst hc; simp only [if_pos]; exact (e7 rfl).2.1
  · simp only [if_neg hc]; rw [e6 i hc]; exact G i hi
theorem AI.congr {g : Nat → Int32} (F : AI Z h a ty z f) (q : ∀ i, i < z.toNatClampNeg → f i = g i) : AI Z h a ty z g := by
  obtain ⟨c, A, S, N, G⟩ := F
  exact ⟨c, A, S, N, fun i hi => by rw [← q i hi]; exact G i hi⟩
theorem AV.inb {c : Cell} (S : c.slots = vs.toArray) (N : vs.length = z.toNatClampNeg) (q : ¬ j < 0 ∧ j < z) : ¬ (j < 0 ∨ c.slots.size ≤ j.toNatClampNeg) := inb_of (by rw [S]; simpa using N) q
theorem AV.len {c : Cell} (S : c.slots = vs.toArray) (N : vs.length = z.toNatClampNeg) (q : ¬ z < 0) : c.slots.size.toInt32 = z := len_of (by rw [S]; simpa using N) q
theorem AV.at {c : Cell} (S : c.slots = vs.toArray) (hj : vs[j.toNatClampNeg]? = some v) : c.slots[j.toNatClampNeg]? = some v := by rw [S]; simpa using hj
theorem AI.at {c : Cell} (S : c.slots.size = z.toNatClampNeg) (G : ∀ i, i < z.toNatClampNeg → c.slots[i]? = some (.int (f i))) (q : ¬ (j < 0 ∨ c.slots.size ≤ j.toNatClampNeg)) : c.slots[j.toNatClampNeg]? = some (.int (f j.toNatClampNeg)) := G _ (by rw [← S]; exact Nat.lt_of_not_le fun x => q (Or.inr x))
def own_sl (x : Slot) : Prop := x = .unset ∨ (∃ i, x = .val (.int i)) ∨ ∃ a, x = .val (.ref a)
theorem own_loop {G : Prop} {α : Type} (P : α → Prop) (m : α → Nat) (hs : ∀ a, P a → (∀ b, P b → m b < m a → G) → G) (a : α) (ha : P a) : G := by
  suffices h : ∀ n a, m a = n → P a → G from h _ a rfl ha
  intro n
  induction n using Nat.strongRecOn with
  | ind n ih => intro a hn hp; exact hs a hp fun b hb hlt => ih (m b) (by rw [← hn]; exact hlt) b rfl hb
theorem own_selp {s : State} {args : Array Value} {y y0 : MethodName} (h0 : (Cond.selects y.cls y0 y0).before args s = true) (hcls : y0.cls = y.cls) (hpriv : s.PrivateAt y) (hinst : (Cond.instanceMethod y).before args s = true) (hy : y.cls ≠ "java/lang/invoke/MethodHandle" ∧ y.cls ≠ "java/lang/invoke/VarHandle") : (Cond.selects y.cls y y).before args s = true := by
  obtain ⟨c2, r2, m2, -, -, q3, -, kP, hkP, hkPi⟩ := Cond.selects_spec h0
  have hf := findClass_of_methodNamed q3
  rw [hcls] at hf
  exact selects_self_of_private hf hkP hkPi hpriv hinst hy
def AK (h : Heap) (a : Addr) (k : ClassId) : Prop := ∃ c : Cell, h[a]? = some c ∧ c.cls = k
theorem AK.ext (F : AK h a k) (E : Ext h h') : AK h' a k := by obtain ⟨c, h1, h2⟩ := F; exact ⟨c, E.2 _ _ h1, h2⟩
theorem AK.wr (F : AK h b k) (W : Wr h h' a sl v) : AK h' b k := by obtain ⟨c, h1, h2⟩ := F; obtain ⟨c', e1, e2, -⟩ := wr_at W h1; exact ⟨c', e1, e2.trans h2⟩
theorem AK.keep (F : AK h a k) (K : Keep h h' ws) : AK h' a k := by obtain ⟨c, h1, h2⟩ := F; obtain ⟨c', e1, e2, -⟩ := K.2.2 _ _ h1; exact ⟨c', e1, e2.trans h2⟩
theorem AK.cls {c : Cell} (F : AK h a k) (A : Arr Z h a c ty) : c.cls = k := by obtain ⟨c', h1, h2⟩ := F; cases h1.symm.trans A.1; exact h2
theorem AV.arv (F : AV Z h a ty z vs) (d : Value) (hf : ∀ v ∈ vs, fits ty v = true) : ∃ k, Arv Z h a k ty z vs d := by
  obtain ⟨c, A, S, N, q⟩ := F
  refine ⟨_, c, A, rfl, by rw [S]; simpa using N, q, fun i hi => ?_, fun i hi => ?_⟩
  · rw [S] at hi ⊢
    have hi' : i < vs.length := by simpa using hi
    simp [hi']
  · rw [S] at hi
    have hi' : i < vs.length := by simpa using hi
    have e : vs.getD i d = vs[i] := by simp [hi']
    rw [e]; exact hf _ (List.getElem_mem hi')
theorem AV.of_arv {d : Value} (F : Arv Z h a k ty z vs d) (N : vs.length = z.toNatClampNeg) : AV Z h a ty z vs := by
  obtain ⟨c, A, -, S, q, H, -⟩ := F
  refine ⟨c, A, ?_, N, q⟩
  apply Array.ext_getElem?
  intro i
  by_cases hi : i < c.slots.size
  · have hi' : i < vs.length := by rw [N, ← S]; exact hi
    rw [H i hi]; simp [hi']
  · have hi' : ¬ i < vs.length := by rw [N, ← S]; exact hi
    simp [Array.getElem?_eq_none (Nat.le_of_not_lt hi), List.getElem?_eq_none (Nat.le_of_not_lt hi')]
end Arrays


/-! arrays of longs, as a function of the place; a way that several ways join -/
def AJ (Z : State) (h : Heap) (a : Addr) (ty : FieldType) (z : Int32) (f : Nat → Int64) : Prop := ∃ c : Cell, Arr Z h a c ty ∧ c.slots.size = z.toNatClampNeg ∧ ¬ z < 0 ∧ ∀ i, i < z.toNatClampNeg → c.slots[i]? = some (.long (f i))
section ArraysJ
variable {Z : State} {h h' : Heap} {a b : Addr} {ty : FieldType} {z j : Int32} {f : Nat → Int64} {sl : Nat} {v : Value} {ws : List Addr} {k : ClassId}
theorem AJ.lt (F : AJ Z h a ty z f) : a < h.size := by obtain ⟨c, A, -⟩ := F; exact A.lt
theorem AJ.ext (F : AJ Z h a ty z f) (E : Ext h h') : AJ Z h' a ty z f := by obtain ⟨c, A, r⟩ := F; exact ⟨c, Arr.ext E A, r⟩
theorem AJ.other (F : AJ Z h b ty z f) (W : Wr h h' a sl v) (q : b ≠ a) : AJ Z h' b ty z f := by obtain ⟨c, A, r⟩ := F; exact ⟨c, Arr.other W A q, r⟩
theorem AJ.keep (F : AJ Z h a ty z f) (K : Keep h h' ws) (q : a ∉ ws) : AJ Z h' a ty z f := by obtain ⟨c, A, r⟩ := F; exact ⟨c, ⟨K.2.1 _ _ A.1 q, A.2⟩, r⟩
theorem AJ.new {d : Int64} (A : Arr Z h a (newA k ty z) ty) (q : ¬ z < 0) (hd : defaultValue ty = .long d) : AJ Z h a ty z (fun _ => d) := ⟨_, A, sz_new k ty z, q, fun i hi => by simp [newA, hi, hd]⟩
theorem AJ.set {c : Cell} {x : Int64} (A : Arr Z h a c ty) (S : c.slots.size = z.toNatClampNeg) (q : ¬ z < 0) (G : ∀ i, i < z.toNatClampNeg → c.slots[i]? = some (.long (f i))) (W : Wr h h' a sl (.long x)) : AJ Z h' a ty z (fun i => if i = sl then x else f i) := by
  obtain ⟨c', e1, -, -, e4, -, e6, e7⟩ := wr_at W A.1
  have A' := Arr.same W A
  obtain rfl : c' = c.setSlot sl (.long x) := (e7 rfl).1
  refine ⟨_, A', by rw [e4]; exact S, q, fun i hi => ?_⟩
  by_cases hc : i = sl
  · subst hc; simp only [if_pos]; exact (e7 rfl).2.1
  · simp only [if_neg hc]; rw [e6 i hc]; exact G i hi
theorem AJ.at {c : Cell} (S : c.slots.size = z.toNatClampNeg) (G : ∀ i, i < z.toNatClampNeg → c.slots[i]? = some (.long (f i))) (q : ¬ (j < 0 ∨ c.slots.size ≤ j.toNatClampNeg)) : c.slots[j.toNatClampNeg]? = some (.long (f j.toNatClampNeg)) := G _ (by rw [← S]; exact Nat.lt_of_not_le fun x => q (Or.inr x))
def own_sl2 (x y : Slot) : Prop := (x = .unset ∧ y = .unset) ∨ ∃ q, x = .val (.long q) ∧ y = .second
theorem own_jn {G : Prop} {α : Type} (P : α → Prop) (hr : ∀ a, P a → G) (hf : (∀ a, P a → G) → G) : G := hf hr
end ArraysJ


theorem own_lt {x y : Int64} : lcmpW x y < 0 ↔ x < y := by rw [lcW]; exact lc_lt x y
theorem own_gt {x y : Int64} : 0 < lcmpW x y ↔ y < x := by rw [lcW]; exact lc_gt x y
theorem own_le {x y : Int64} : lcmpW x y = 0 ↔ x = y := by rw [lcW]; exact lc_eq x y


theorem own_and3 (x : Int32) : (x &&& 3) = 0 ∨ (x &&& 3) = 1 ∨ (x &&& 3) = 2 ∨ (x &&& 3) = 3 := by
  have e : (x &&& 3).toInt = x.toInt % 2 ^ 2 := Jvm.Kit.i32_mask x 3 (k := 2) (by decide) (by decide)
  have h : x.toInt % 2 ^ 2 = 0 ∨ x.toInt % 2 ^ 2 = 1 ∨ x.toInt % 2 ^ 2 = 2 ∨ x.toInt % 2 ^ 2 = 3 := by omega
  rcases h with h | h | h | h
  · exact Or.inl (Int32.toInt_inj.mp (e.trans h))
  · exact Or.inr (Or.inl (Int32.toInt_inj.mp (e.trans h)))
  · exact Or.inr (Or.inr (Or.inl (Int32.toInt_inj.mp (e.trans h))))
  · exact Or.inr (Or.inr (Or.inr (Int32.toInt_inj.mp (e.trans h))))


/-! the plain law of the knapsack -/
def own_bv (b : Nat → Int64) (v : Int64) (s : Int32) (j : Nat) : Int64 := if 0 < v ∧ s.toInt.toNat ≤ j ∧ b j < b (j - s.toInt.toNat) + v then b (j - s.toInt.toNat) + v else b j
def own_tv (b : Nat → Int64) (v : Int64) (s : Int32) (j : Nat) : Int32 := if 0 < v ∧ s.toInt.toNat ≤ j ∧ b j < b (j - s.toInt.toNat) + v then 1 else 0
def own_item (cap : Int32) (b : Nat → Int64) (v : Int64) (s : Int32) (b' : Nat → Int64) (t : Nat → Int32) : Prop := ∀ j, j ≤ cap.toInt.toNat → b' j = own_bv b v s j ∧ t j = own_tv b v s j
def own_lp (cap : Int32) (b : Nat → Int64) (v : Int64) (s c : Int32) (b' : Nat → Int64) (t : Nat → Int32) : Prop := ∀ j : Nat, j ≤ cap.toInt.toNat → b' j = (if c.toInt < j then own_bv b v s j else b j) ∧ t j = (if c.toInt < j then own_tv b v s j else 0)
def own_cap (cap : Int32) : Prop := 0 ≤ cap.toInt ∧ cap.toInt ≤ 15
def own_rg (r cap : Int32) : Prop := 0 ≤ r.toInt ∧ r.toInt ≤ cap.toInt
def own_vr (v : Int64) : Prop := -2147483648 ≤ v.toInt ∧ v.toInt < 2147483648
def own_tr (t : Nat → Int32) (s r : Int32) (x : Bool) (r' : Int32) : Prop := (x = false ∧ t r.toNatClampNeg = 0 ∧ r' = r) ∨ (x = true ∧ ¬ t r.toNatClampNeg = 0 ∧ r' = r - s)
theorem own_k1 {cap : Int32} (h : own_cap cap) : (cap + 1).toInt = cap.toInt + 1 := by
  obtain ⟨h0, h1⟩ := h
  rw [Int32.toInt_add]
  show Int.bmod (cap.toInt + 1) _ = _
  exact Int.bmod_eq_of_le (by omega) (by omega)
theorem own_cneg {cap : Int32} (h : own_cap cap) : ¬ (cap + 1) < 0 := fun q => by
  have q : (cap + 1).toInt < 0 := Int32.lt_iff_toInt_lt.mp q
  rw [own_k1 h] at q
  have := h.1; omega
theorem own_cle {cap : Int32} (h : own_cap cap) : (cap + 1).toNatClampNeg ≤ 16 := by
  show (cap + 1).toInt.toNat ≤ 16
  rw [own_k1 h]
  have := h.2; omega
theorem own_sb {a b : Int32} (h1 : -2147483648 ≤ a.toInt - b.toInt) (h : a.toInt - b.toInt < 2147483648) : (a - b).toInt = a.toInt - b.toInt := by
  rw [Int32.toInt_sub]; exact Int.bmod_eq_of_le (by omega) (by omega)
theorem own_m1 {c : Int32} (h1 : -1 ≤ c.toInt) (h2 : c.toInt < 100) : (c + (-1)).toInt = c.toInt - 1 := by
  rw [Int32.toInt_add]
  show Int.bmod (c.toInt + -1) _ = _
  rw [Int.bmod_eq_of_le (by omega) (by omega)]; omega
theorem own_nlt {j k : Int32} (h : ¬ j < k) : k.toInt ≤ j.toInt := Int.not_lt.mp fun h' => h (Int32.lt_iff_toInt_lt.mpr h')
theorem own_ixr {r cap : Int32} (h : own_cap cap) (hr : own_rg r cap) : ¬ r < 0 ∧ r < cap + 1 := by
  refine ⟨fun q => ?_, Int32.lt_iff_toInt_lt.mpr ?_⟩
  · have q : r.toInt < 0 := Int32.lt_iff_toInt_lt.mp q
    have := hr.1; omega
  · rw [own_k1 h]; have := hr.2; omega
theorem own_rgc {c s cap : Int32} (hs : own_rg s cap) (h1 : c.toInt ≤ cap.toInt) (hc : ¬ c < s) : own_rg c cap := by
  have := own_nlt hc
  exact ⟨by have := hs.1; omega, h1⟩
theorem own_rgs {c s cap : Int32} (h : own_cap cap) (hs : own_rg s cap) (h1 : c.toInt ≤ cap.toInt) (hc : ¬ c < s) : own_rg (c - s) cap := by
  have := own_nlt hc
  obtain ⟨s0, s1⟩ := hs
  obtain ⟨c0, c1⟩ := h
  unfold own_rg
  rw [own_sb (by omega) (by omega)]
  omega
theorem own_lp0 (cap : Int32) (b : Nat → Int64) (v : Int64) (s : Int32) (h : own_cap cap) : own_lp cap b v s cap b (fun _ => 0) := fun j hj => by
  have := h.1
  rw [if_neg (by omega), if_neg (by omega)]; exact ⟨rfl, rfl⟩
theorem own_lpE {cap s c : Int32} {b b' : Nat → Int64} {v : Int64} {t : Nat → Int32} (hs : own_rg s cap) (I : own_lp cap b v s c b' t) (hc : c < s) : own_item cap b v s b' t := fun j hj => by
  have hc : c.toInt < s.toInt := Int32.lt_iff_toInt_lt.mp hc
  obtain ⟨s0, s1⟩ := hs
  obtain ⟨h1, h2⟩ := I j hj
  by_cases q : c.toInt < j
  · rw [if_pos q] at h1 h2; exact ⟨h1, h2⟩
  · rw [if_neg q] at h1 h2
    have k : ¬ (0 < v ∧ s.toInt.toNat ≤ j ∧ b j < b (j - s.toInt.toNat) + v) := fun w => by omega
    rw [h1, h2]
    exact ⟨(if_neg k).symm, (if_neg k).symm⟩
theorem own_itn {cap s : Int32} {b : Nat → Int64} {v : Int64} (hv : ¬ 0 < v) : own_item cap b v s b (fun _ => 0) := fun j hj => by
  have k : ¬ (0 < v ∧ s.toInt.toNat ≤ j ∧ b j < b (j - s.toInt.toNat) + v) := fun w => hv w.1
  exact ⟨(if_neg k).symm, (if_neg k).symm⟩
theorem own_stp {cap s c : Int32} {b b' : Nat → Int64} {v : Int64} {t : Nat → Int32} (hk : own_cap cap) (hs : own_rg s cap) (h1 : c.toInt ≤ cap.toInt) (hc : ¬ c < s) (I : own_lp cap b v s c b' t) :
    (c + (-1)).toInt = c.toInt - 1 ∧ c.toNatClampNeg = c.toInt.toNat ∧ (c - s).toNatClampNeg = c.toInt.toNat - s.toInt.toNat ∧ s.toInt.toNat ≤ c.toInt.toNat ∧ c.toInt.toNat ≤ cap.toInt.toNat ∧ b' c.toInt.toNat = b c.toInt.toNat ∧ b' (c.toInt.toNat - s.toInt.toNat) = b (c.toInt.toNat - s.toInt.toNat) := by
  have hc' := own_nlt hc
  obtain ⟨s0, s1⟩ := hs
  obtain ⟨k0, k1⟩ := hk
  have e2 : (c - s).toNatClampNeg = (c - s).toInt.toNat := rfl
  refine ⟨own_m1 (by omega) (by omega), rfl, ?_, by omega, by omega, ?_, ?_⟩
  · rw [e2, own_sb (by omega) (by omega)]; omega
  · rw [(I _ (by omega)).1, if_neg (by omega)]
  · rw [(I _ (by omega)).1, if_neg (by omega)]
theorem own_stY {cap s c : Int32} {b b' : Nat → Int64} {v : Int64} {t : Nat → Int32} (hk : own_cap cap) (hs : own_rg s cap) (h1 : c.toInt ≤ cap.toInt) (hc : ¬ c < s) (hv : 0 < v) (I : own_lp cap b v s c b' t) (hw : b' c.toNatClampNeg < b' (c - s).toNatClampNeg + v) :
    own_lp cap b v s (c + (-1)) (fun i => if i = c.toNatClampNeg then b' (c - s).toNatClampNeg + v else b' i) (fun i => if i = c.toNatClampNeg then 1 else t i) := fun j hj => by
  obtain ⟨e1, e2, e3, e4, e5, e6, e7⟩ := own_stp hk hs h1 hc I
  have hc' := own_nlt hc
  have hs0 := hs.1
  rw [e2, e3, e6, e7] at hw
  dsimp only
  rw [e1, e2, e3, e7]
  by_cases q : j = c.toInt.toNat
  · subst q
    have k : 0 < v ∧ s.toInt.toNat ≤ c.toInt.toNat ∧ b c.toInt.toNat < b (c.toInt.toNat - s.toInt.toNat) + v := ⟨hv, e4, hw⟩
    rw [if_pos rfl, if_pos rfl, if_pos (by omega), if_pos (by omega)]
    exact ⟨(if_pos k).symm, (if_pos k).symm⟩
  · rw [if_neg q, if_neg q]
    obtain ⟨g1, g2⟩ := I j hj
    by_cases q2 : c.toInt < j
    · rw [if_pos q2] at g1 g2
      rw [if_pos (by omega), if_pos (by omega)]; exact ⟨g1, g2⟩
    · rw [if_neg q2] at g1 g2
      rw [if_neg (by omega), if_neg (by omega)]; exact ⟨g1, g2⟩
theorem own_stN {cap s c : Int32} {b b' : Nat → Int64} {v : Int64} {t : Nat → Int32} (hk : own_cap cap) (hs : own_rg s cap) (h1 : c.toInt ≤ cap.toInt) (hc : ¬ c < s) (I : own_lp cap b v s c b' t) (hw : ¬ b' c.toNatClampNeg < b' (c - s).toNatClampNeg + v) :
    own_lp cap b v s (c + (-1)) b' t := fun j hj => by
  obtain ⟨e1, e2, e3, e4, e5, e6, e7⟩ := own_stp hk hs h1 hc I
  have hc' := own_nlt hc
  have hs0 := hs.1
  rw [e2, e3, e6, e7] at hw
  rw [e1]
  obtain ⟨g1, g2⟩ := I j hj
  by_cases q : j = c.toInt.toNat
  · subst q
    have k : ¬ (0 < v ∧ s.toInt.toNat ≤ c.toInt.toNat ∧ b c.toInt.toNat < b (c.toInt.toNat - s.toInt.toNat) + v) := fun w => hw w.2.2
    rw [if_neg (by omega)] at g1 g2
    rw [if_pos (by omega), if_pos (by omega), g1, g2]
    exact ⟨(if_neg k).symm, (if_neg k).symm⟩
  · by_cases q2 : c.toInt < j
    · rw [if_pos q2] at g1 g2
      rw [if_pos (by omega), if_pos (by omega)]; exact ⟨g1, g2⟩
    · rw [if_neg q2] at g1 g2
      rw [if_neg (by omega), if_neg (by omega)]; exact ⟨g1, g2⟩
theorem own_mlt {cap s c : Int32} (hk : own_cap cap) (hs : own_rg s cap) (h1 : c.toInt ≤ cap.toInt) (hc : ¬ c < s) : ((c + (-1)).toInt + 1).toNat < (c.toInt + 1).toNat := by
  have hc' := own_nlt hc
  have := hs.1; have := hk.2
  rw [own_m1 (by omega) (by omega)]; omega
theorem own_mle {cap s c : Int32} (hk : own_cap cap) (hs : own_rg s cap) (h1 : c.toInt ≤ cap.toInt) (hc : ¬ c < s) : (c + (-1)).toInt ≤ cap.toInt := by
  have hc' := own_nlt hc
  have := hs.1; have := hk.2
  rw [own_m1 (by omega) (by omega)]; omega
/-! what an item's row says -/
def own_bd (cap : Int32) (b : Nat → Int64) (K : Int) : Prop := ∀ j, j ≤ cap.toInt.toNat → 0 ≤ (b j).toInt ∧ (b j).toInt ≤ K
theorem own_ad {x v : Int64} (hv : own_vr v) (h0 : 0 ≤ x.toInt) (h1 : x.toInt ≤ 4294967296) : (x + v).toInt = x.toInt + v.toInt := by
  obtain ⟨v0, v1⟩ := hv
  rw [Int64.toInt_add]; exact Int.bmod_eq_of_le (by omega) (by omega)
theorem own_it {cap s : Int32} {b b' : Nat → Int64} {v : Int64} {t : Nat → Int32} {K : Int} (hs : own_rg s cap) (hv : own_vr v) (B : own_bd cap b K) (hK : K ≤ 4294967296) (I : own_item cap b v s b' t) (j : Nat) (hj : j ≤ cap.toInt.toNat) :
    (b j).toInt ≤ (b' j).toInt ∧ (b' j).toInt ≤ K + 2147483648 ∧ (0 < v.toInt → s.toInt.toNat ≤ j → (b (j - s.toInt.toNat)).toInt + v.toInt ≤ (b' j).toInt) ∧
    (t j = 0 → b' j = b j) ∧ (¬ t j = 0 → 0 < v.toInt ∧ s.toInt.toNat ≤ j ∧ (b' j).toInt = (b (j - s.toInt.toNat)).toInt + v.toInt) := by
  obtain ⟨e1, e2⟩ := I j hj
  obtain ⟨B0, B1⟩ := B j hj
  have hv' := hv
  obtain ⟨v0, v1⟩ := hv
  have z0 : (0 : Int64).toInt = 0 := rfl
  by_cases q : 0 < v ∧ s.toInt.toNat ≤ j ∧ b j < b (j - s.toInt.toNat) + v
  · have e1 : b' j = b (j - s.toInt.toNat) + v := e1.trans (if_pos q)
    have e2 : t j = 1 := e2.trans (if_pos q)
    obtain ⟨C0, C1⟩ := B (j - s.toInt.toNat) (by omega)
    have ad := own_ad hv' C0 (by omega)
    obtain ⟨q1, q2, q3⟩ := q
    have q1 : 0 < v.toInt := Int64.lt_iff_toInt_lt.mp q1
    have q3 := Int64.lt_iff_toInt_lt.mp q3
    rw [ad] at q3
    rw [e1, ad, e2]
    exact ⟨by omega, by omega, fun _ _ => by omega, fun w => absurd w (by decide), fun _ => ⟨q1, q2, rfl⟩⟩
  · have e1 : b' j = b j := e1.trans (if_neg q)
    have e2 : t j = 0 := e2.trans (if_neg q)
    rw [e1, e2]
    refine ⟨by omega, by omega, fun w1 w2 => ?_, fun _ => rfl, fun w => absurd rfl w⟩
    obtain ⟨C0, C1⟩ := B (j - s.toInt.toNat) (by omega)
    have ad := own_ad hv' C0 (by omega)
    have : ¬ b j < b (j - s.toInt.toNat) + v := fun w => q ⟨Int64.lt_iff_toInt_lt.mpr w1, w2, w⟩
    rw [Int64.lt_iff_toInt_lt, ad] at this
    omega
theorem own_nbd {cap s : Int32} {b b' : Nat → Int64} {v : Int64} {t : Nat → Int32} {K : Int} (hs : own_rg s cap) (hv : own_vr v) (B : own_bd cap b K) (hK : K ≤ 4294967296) (I : own_item cap b v s b' t) : own_bd cap b' (K + 2147483648) := fun j hj => by
  have h := own_it hs hv B hK I j hj
  have := (B j hj).1
  exact ⟨by omega, h.2.1⟩
def own_if (x : Bool) (y : Int) : Int := if x = true then y else 0
theorem own_up {cap s : Int32} {b b' : Nat → Int64} {v : Int64} {t : Nat → Int32} {K : Int} {α : Type} {sz wt : α → Int} (hs : own_rg s cap) (hv : own_vr v) (B : own_bd cap b K) (hK : K ≤ 4294967296) (I : own_item cap b v s b' t)
    (h0 : ∀ y, 0 ≤ sz y) (U : ∀ j : Nat, j ≤ cap.toInt.toNat → ∀ y, sz y ≤ j → wt y ≤ (b j).toInt) (j : Nat) (hj : j ≤ cap.toInt.toNat) (y : α) (x : Bool) (hf : sz y + own_if x s.toInt ≤ j) : wt y + own_if x v.toInt ≤ (b' j).toInt := by
  obtain ⟨i1, i2, i3, -⟩ := own_it hs hv B hK I j hj
  have hs0 := hs.1
  have hy := h0 y
  cases x with
  | false =>
    have hf : sz y + 0 ≤ j := hf
    have := U j hj y (by omega)
    show wt y + 0 ≤ _
    omega
  | true =>
    have hf : sz y + s.toInt ≤ j := hf
    show wt y + v.toInt ≤ _
    by_cases q : 0 < v.toInt
    · have k := i3 q (by omega)
      have := U (j - s.toInt.toNat) (by omega) y (by omega)
      omega
    · have := U j hj y (by omega)
      omega
theorem own_rm {cap s r r' : Int32} {b b' : Nat → Int64} {v : Int64} {t : Nat → Int32} {K : Int} {x : Bool} (hk : own_cap cap) (hr : own_rg r cap) (hs : own_rg s cap) (hv : own_vr v) (B : own_bd cap b K) (hK : K ≤ 4294967296) (I : own_item cap b v s b' t) (T : own_tr t s r x r') :
    own_rg r' cap ∧ r.toInt = r'.toInt + own_if x s.toInt ∧ (b' r.toInt.toNat).toInt = (b r'.toInt.toNat).toInt + own_if x v.toInt ∧ (x = true → 0 < v.toInt) := by
  obtain ⟨r0, r1⟩ := hr
  have hs' := hs
  obtain ⟨s0, s1⟩ := hs
  obtain ⟨k0, k1⟩ := hk
  obtain ⟨-, -, -, i4, i5⟩ := own_it hs' hv B hK I r.toInt.toNat (by omega)
  rcases T with ⟨rfl, h1, rfl⟩ | ⟨rfl, h1, rfl⟩
  · have h1 : t r'.toInt.toNat = 0 := h1
    rw [i4 h1]
    exact ⟨⟨r0, r1⟩, by show _ = _ + 0; omega, by show _ = _ + 0; omega, fun w => by cases w⟩
  · have h1 : ¬ t r.toInt.toNat = 0 := h1
    obtain ⟨j1, j2, j3⟩ := i5 h1
    have e : (r - s).toInt = r.toInt - s.toInt := own_sb (by omega) (by omega)
    have e' : (r - s).toInt.toNat = r.toInt.toNat - s.toInt.toNat := by rw [e]; omega
    refine ⟨⟨by rw [e]; omega, by rw [e]; omega⟩, ?_, ?_, fun _ => j1⟩
    · rw [e]; show r.toInt = _ + s.toInt; omega
    · rw [e', j3]; rfl
theorem own_rm0 {cap s r : Int32} {b b' : Nat → Int64} {v : Int64} {t : Nat → Int32} (hk : own_cap cap) (hr : own_rg r cap) (hs : own_rg s cap) (I : own_item cap b v s b' t) (h : ¬ t r.toNatClampNeg = 0) : own_rg (r - s) cap := by
  obtain ⟨r0, r1⟩ := hr
  obtain ⟨s0, s1⟩ := hs
  obtain ⟨k0, k1⟩ := hk
  have h : ¬ t r.toInt.toNat = 0 := h
  rw [(I r.toInt.toNat (by omega)).2] at h
  have q : 0 < v ∧ s.toInt.toNat ≤ r.toInt.toNat ∧ b r.toInt.toNat < b (r.toInt.toNat - s.toInt.toNat) + v := Decidable.byContradiction fun q => h (if_neg q)
  have e : (r - s).toInt = r.toInt - s.toInt := own_sb (by omega) (by omega)
  exact ⟨by rw [e]; omega, by rw [e]; omega⟩
def own_sz (s0 s1 s2 : Int32) (x0 x1 x2 : Bool) : Int := own_if x0 s0.toInt + own_if x1 s1.toInt + own_if x2 s2.toInt
def own_wt (v0 v1 v2 : Int64) (x0 x1 x2 : Bool) : Int := own_if x0 v0.toInt + own_if x1 v1.toInt + own_if x2 v2.toInt
def own_good (cap s0 s1 s2 : Int32) (v0 v1 v2 : Int64) (x0 x1 x2 : Bool) : Prop := (x0 = true → 0 < v0.toInt) ∧ (x1 = true → 0 < v1.toInt) ∧ (x2 = true → 0 < v2.toInt) ∧ own_sz s0 s1 s2 x0 x1 x2 ≤ cap.toInt ∧ ∀ y0 y1 y2, own_sz s0 s1 s2 y0 y1 y2 ≤ cap.toInt → own_wt v0 v1 v2 y0 y1 y2 ≤ own_wt v0 v1 v2 x0 x1 x2
theorem own_if0 (x : Bool) {y : Int} (h : 0 ≤ y) : 0 ≤ own_if x y := by cases x; exact Int.le_refl _; exact h
theorem own_fin {cap s0 s1 s2 r0 r1 r2 : Int32} {v0 v1 v2 : Int64} {b1 b2 b3 : Nat → Int64} {t0 t1 t2 : Nat → Int32} {x0 x1 x2 : Bool} (hk : own_cap cap) (hs0 : own_rg s0 cap) (hs1 : own_rg s1 cap) (hs2 : own_rg s2 cap) (hv0 : own_vr v0) (hv1 : own_vr v1) (hv2 : own_vr v2)
    (I0 : own_item cap (fun _ => 0) v0 s0 b1 t0) (I1 : own_item cap b1 v1 s1 b2 t1) (I2 : own_item cap b2 v2 s2 b3 t2) (T2 : own_tr t2 s2 cap x2 r2) (T1 : own_tr t1 s1 r2 x1 r1) (T0 : own_tr t0 s0 r1 x0 r0) : own_good cap s0 s1 s2 v0 v1 v2 x0 x1 x2 := by
  have B0 : own_bd cap (fun _ => 0) 0 := fun j hj => ⟨Int.le_refl _, Int.le_refl _⟩
  have B1 := own_nbd hs0 hv0 B0 (by omega) I0
  have B2 := own_nbd hs1 hv1 B1 (by omega) I1
  have hc : own_rg cap cap := ⟨hk.1, Int.le_refl _⟩
  obtain ⟨R2, a2, c2, p2⟩ := own_rm hk hc hs2 hv2 B2 (by omega) I2 T2
  obtain ⟨R1, a1, c1, p1⟩ := own_rm hk R2 hs1 hv1 B1 (by omega) I1 T1
  obtain ⟨R0, a0, c0, p0⟩ := own_rm hk R1 hs0 hv0 B0 (by omega) I0 T0
  have z : (0 : Int64).toInt = 0 := rfl
  refine ⟨p0, p1, p2, ?_, fun y0 y1 y2 hy => ?_⟩
  · have := R0.1
    unfold own_sz; omega
  · have k0 := hk.1
    have U1 := fun j hj y x => own_up (α := Unit) (sz := fun _ => 0) (wt := fun _ => 0) hs0 hv0 B0 (by omega) I0 (fun _ => Int.le_refl _) (fun _ _ _ _ => Int.le_refl _) j hj y x
    have U2 := fun j hj y x => own_up (α := Bool) (sz := fun x => 0 + own_if x s0.toInt) (wt := fun x => 0 + own_if x v0.toInt) hs1 hv1 B1 (by omega) I1 (fun y => by have := own_if0 y hs0.1; omega) (fun j hj y h => U1 j hj () y h) j hj y x
    have U3 := own_up (α := Bool × Bool) (sz := fun x => 0 + own_if x.1 s0.toInt + own_if x.2 s1.toInt) (wt := fun x => 0 + own_if x.1 v0.toInt + own_if x.2 v1.toInt) hs2 hv2 B2 (by omega) I2 (fun y => by have := own_if0 y.1 hs0.1; have := own_if0 y.2 hs1.1; show 0 ≤ 0 + own_if y.1 s0.toInt + own_if y.2 s1.toInt; omega) (fun j hj y h => U2 j hj y.1 y.2 h) cap.toInt.toNat (Nat.le_refl _) (y0, y1) y2
    unfold own_sz at hy
    have U3 := U3 (by show 0 + own_if y0 s0.toInt + own_if y1 s1.toInt + own_if y2 s2.toInt ≤ _; omega)
    have U3 : 0 + own_if y0 v0.toInt + own_if y1 v1.toInt + own_if y2 v2.toInt ≤ (b3 cap.toInt.toNat).toInt := U3
    unfold own_wt; omega


theorem own_vr0 : own_vr 0 := ⟨by decide, by decide⟩
theorem own_it0 {cap : Int32} {b : Nat → Int64} : own_item cap b 0 0 b (fun _ => 0) := own_itn (by decide)

theorem d1_0 : decode prog_60_method_2_code 0 = .ok (.aload_n 0, 1) := by decide +kernel
theorem d1_1 : decode prog_60_method_2_code 1 = .ok (.arraylength, 1) := by decide +kernel
theorem d1_2 : decode prog_60_method_2_code 2 = .ok (.istore_n 3, 1) := by decide +kernel
theorem d1_3 : decode prog_60_method_2_code 3 = .ok (.iload_n 2, 1) := by decide +kernel
theorem d1_4 : decode prog_60_method_2_code 4 = .ok (.iconst 1, 1) := by decide +kernel
theorem d1_5 : decode prog_60_method_2_code 5 = .ok (.iadd, 1) := by decide +kernel
theorem d1_6 : decode prog_60_method_2_code 6 = .ok (.newarray .long, 2) := by decide +kernel
theorem d1_8 : decode prog_60_method_2_code 8 = .ok (.astore 4, 2) := by decide +kernel
theorem d1_10 : decode prog_60_method_2_code 10 = .ok (.iload_n 3, 1) := by decide +kernel
theorem d1_11 : decode prog_60_method_2_code 11 = .ok (.anewarray 7, 3) := by decide +kernel
theorem d1_14 : decode prog_60_method_2_code 14 = .ok (.astore 5, 2) := by decide +kernel
theorem d1_16 : decode prog_60_method_2_code 16 = .ok (.iconst 0, 1) := by decide +kernel
theorem d1_17 : decode prog_60_method_2_code 17 = .ok (.istore 6, 2) := by decide +kernel
theorem d1_19 : decode prog_60_method_2_code 19 = .ok (.iload 6, 2) := by decide +kernel
theorem d1_21 : decode prog_60_method_2_code 21 = .ok (.iload_n 3, 1) := by decide +kernel
theorem d1_22 : decode prog_60_method_2_code 22 = .ok (.if_icmp .ge 93, 3) := by decide +kernel
theorem d1_115 : decode prog_60_method_2_code 115 = .ok (.iconst 0, 1) := by decide +kernel
theorem d1_116 : decode prog_60_method_2_code 116 = .ok (.istore 6, 2) := by decide +kernel
theorem d1_118 : decode prog_60_method_2_code 118 = .ok (.iload_n 3, 1) := by decide +kernel
theorem d1_119 : decode prog_60_method_2_code 119 = .ok (.newarray .boolean, 2) := by decide +kernel
theorem d1_121 : decode prog_60_method_2_code 121 = .ok (.astore 7, 2) := by decide +kernel
theorem d1_123 : decode prog_60_method_2_code 123 = .ok (.iload_n 2, 1) := by decide +kernel
theorem d1_124 : decode prog_60_method_2_code 124 = .ok (.istore 8, 2) := by decide +kernel
theorem d1_126 : decode prog_60_method_2_code 126 = .ok (.iload_n 3, 1) := by decide +kernel
theorem d1_127 : decode prog_60_method_2_code 127 = .ok (.iconst 1, 1) := by decide +kernel
theorem d1_128 : decode prog_60_method_2_code 128 = .ok (.isub, 1) := by decide +kernel
theorem d1_129 : decode prog_60_method_2_code 129 = .ok (.istore 9, 2) := by decide +kernel
theorem d1_131 : decode prog_60_method_2_code 131 = .ok (.iload 9, 2) := by decide +kernel
theorem d1_133 : decode prog_60_method_2_code 133 = .ok (.ifCond .lt 38, 3) := by decide +kernel
theorem d1_171 : decode prog_60_method_2_code 171 = .ok (.iload 6, 2) := by decide +kernel
theorem d1_173 : decode prog_60_method_2_code 173 = .ok (.newarray .int, 2) := by decide +kernel
theorem d1_175 : decode prog_60_method_2_code 175 = .ok (.astore 9, 2) := by decide +kernel
theorem d1_177 : decode prog_60_method_2_code 177 = .ok (.iconst 0, 1) := by decide +kernel
theorem d1_178 : decode prog_60_method_2_code 178 = .ok (.istore 10, 2) := by decide +kernel
theorem d1_180 : decode prog_60_method_2_code 180 = .ok (.iconst 0, 1) := by decide +kernel
theorem d1_181 : decode prog_60_method_2_code 181 = .ok (.istore 11, 2) := by decide +kernel
theorem d1_183 : decode prog_60_method_2_code 183 = .ok (.iload 11, 2) := by decide +kernel
theorem d1_185 : decode prog_60_method_2_code 185 = .ok (.iload_n 3, 1) := by decide +kernel
theorem d1_186 : decode prog_60_method_2_code 186 = .ok (.if_icmp .ge 27, 3) := by decide +kernel
theorem d1_213 : decode prog_60_method_2_code 213 = .ok (.aload 9, 2) := by decide +kernel
theorem d1_215 : decode prog_60_method_2_code 215 = .ok (.areturn, 1) := by decide +kernel
theorem pn_0 : plainName "com/example/hindsight/hindsight/solvers/Knapsack" = true := by first | (simp [plainName, overriddenIn]; done) | decide +kernel
abbrev kI (x : Int32) : Slot := .val (.int x)
abbrev kJ (x : Int64) : Slot := .val (.long x)
abbrev kR (x : Addr) : Slot := .val (.ref x)
abbrev kU : Slot := .unset
abbrev kD : Slot := .second
abbrev Lq1n0 (a1 : Addr) (a2 : Addr) (p3 : Int32) (b2 : Addr) (b5 : Addr) (x6 : Slot) (x7 : Slot) (x8 : Slot) (x9 : Slot) : Array Slot := #[.val (.ref a1), .val (.ref a2), .val (.int p3), .val (.int (0 : Int32)), .val (.ref b2), .val (.ref b5), x6, x7, x8, x9, .unset, .unset]
theorem ef_1n0 (m : MethodId) (x0 : Addr) (x1 : Addr) (x2 : Int32) : entryFrame m #[(.ref x0), (.ref x1), (.int x2)] 12 = mkF m 0 #[.val (.ref x0), .val (.ref x1), .val (.int x2), .unset, .unset, .unset, .unset, .unset, .unset, .unset, .unset, .unset] [] := by first | (simp [entryFrame, mkF, argsToLocals, Value.category]; done) | rfl
def Q1n0 (Z : State) (a1 : Addr) (a2 : Addr) (p3 : Int32) (h0 : Heap) (n0 : Nat) (v : Option Value) (h : Heap) (L : List Loc) : Prop := ∃ r1 : Addr, ∃ zr : Int32, ∃ vr : List Value, v = some (.ref r1) ∧ Fr n0 L ∧ Keep h0 h [] ∧ n0 ≤ r1 ∧ h0.size ≤ r1 ∧ AV Z h r1 .int zr vr ∧ ((zr = (0 : Int32) ∧ vr = [] ∧ own_good p3 (0 : Int32) (0 : Int32) (0 : Int32) (0 : Int64) (0 : Int64) (0 : Int64) false false false))
set_option maxRecDepth 65536 in
set_option maxHeartbeats 40000000 in
theorem rm1n0 (l : Launch) (Z : State) (a0 : Array Value) (hw : ∀ d ∈ tables_1, d.before a0 Z = true) (ws : List Jvm.Cond) (a1 : Addr) (a2 : Addr) (p3 : Int32) (h0 : Heap) (n0 : Nat) (Z0 : n0 ≤ h0.size) (V_a1 : AV Z h0 a1 .int (0 : Int32) []) (V_a2 : AV Z h0 a2 .long (0 : Int32) []) (hcap : own_cap p3) :
    MetFree l (⟨"com/example/hindsight/hindsight/solvers/Knapsack", "heaviest", "([I[JI)[I"⟩ : MethodName) (head1 (Jvm.Cond.code (⟨"com/example/hindsight/hindsight/solvers/Knapsack", "heaviest", "([I[JI)[I"⟩ : MethodName) prog_60_method_2_code 12 (some (.array .int)) :: ws) ({ frames := 0, cells := 4, slots := 16, locals := 0 } : Room)) (fun a U => a = #[(.ref a1), (.ref a2), (.int p3)] ∧ Z.Warmed39 U.vm ∧ U.heap = h0) (fun _ _ _ _ _ => True) (fun _ U o U' => ∃ v L, o = .returned v ∧ Q1n0 Z a1 a2 p3 h0 n0 v U'.heap L ∧ FrameEnd U o U' L ({ frames := 0, cells := 4, slots := 16, locals := 0 } : Room).cells ({ frames := 0, cells := 4, slots := 16, locals := 0 } : Room).slots) := by
  refine MetFree.of_bodySF (plainFor_of_name pn_0) hisR ?_
  intro p e s m args below meth c s₁ Bd hml0 hP hK
  obtain ⟨rfl, hZ, hh⟩ := hP
  have hx := Bd.exec
  have hlk : meth.locks = false := by first | exact BodyLoose.notSynchronized Bd | exact Body.notSynchronized Bd
  have hby := Bd.bytes
  have hml : c.maxLocals = 12 := hml0
  have hown : s.vm.findClass "com/example/hindsight/hindsight/solvers/Knapsack" = some m.cls := findClass_of_methodNamed Bd.named
  have hnm := (name_of_methodNamed Bd.named Bd.method).1
  have X0 : Stand p l e ({ frames := 0, cells := 4, slots := 16, locals := 0 } : Room) s m #[(.ref a1), (.ref a2), (.int p3)] below meth c s₁ [] 0 0 := Stand.of_body Bd
  have e0 : s₁.heap = h0 := by rw [← hh, Bd.state]; rfl
  have N0 := Fr.nil n0
  have pre0 : ∀ t, Steps p.tables e below (s₁.setTop (mkF m 0 #[.val (.ref a1), .val (.ref a2), .val (.int p3), .unset, .unset, .unset, .unset, .unset, .unset, .unset, .unset, .unset] [])) t → Steps p.tables e below (s₁.setTop (entryFrame m #[(.ref a1), (.ref a2), (.int p3)] 12)) t := fun t k => castTop (ef_1n0 m a1 a2 p3) k
  obtain ⟨cl1, A1, S1, Nl1, M1⟩ := id V_a1
  obtain ⟨T2, h2, k2, X2, e2, E2, A2, st2⟩ := newP X0 hx hZ (hw _ (List.mem_of_getElem? (i := 1) rfl)) e0 (g := (mkF m 6 #[(kR a1), (kR a2), (kI p3), (kI 0), kU, kU, kU, kU, kU, kU, kU, kU] [(.int (p3 + (1 : Int32)))])) rfl (hb hby d1_6) rfl (own_cneg hcap) (cap := 16) (own_cle hcap) (by decide) (by decide) (by decide)
  obtain ⟨b2, g2⟩ : ∃ z, z = h0.size := ⟨_, rfl⟩
  rw [← g2] at A2 st2
  have ne3 : a1 ≠ b2 := Nat.ne_of_lt (Nat.lt_of_lt_of_le V_a1.lt (Nat.le_of_eq g2.symm))
  have ne4 : a2 ≠ b2 := Nat.ne_of_lt (Nat.lt_of_lt_of_le V_a2.lt (Nat.le_of_eq g2.symm))
  have g_b2 : n0 ≤ b2 := Nat.le_trans Z0 (Nat.le_of_eq g2.symm)
  have sz_b2 : h0.size ≤ b2 := Nat.le_trans (Keep.refl h0 []).1 (Nat.le_of_eq g2.symm)
  have K2 : Keep h0 h2 [] := (Keep.refl h0 []).ext E2
  have V_b2 : AJ Z h2 b2 .long (p3 + (1 : Int32)) (fun _ => 0) := AJ.new A2 (own_cneg hcap) rfl
  obtain ⟨T5, h5, k5, X5, e5, E5, A5, Ex5, O5, st5⟩ := newRA X2 hx hZ hown (C := "[Z") (ty := .boolean) (by decide) (hw _ (List.mem_of_getElem? (i := 6) rfl)) (hw _ (List.mem_of_getElem? (i := 7) rfl)) e2 (g := (mkF m 11 #[(kR a1), (kR a2), (kI p3), (kI 0), (kR b2), kU, kU, kU, kU, kU, kU, kU] [(.int (0 : Int32))])) rfl (hb hby d1_11) rfl (by decide) (cap := 0) (by decide) (by decide) (by decide) (by decide) (ad := "[[Z") (by decide)
  obtain ⟨b5, g5⟩ : ∃ z, z = h2.size := ⟨_, rfl⟩
  rw [← g5] at A5 st5
  have F6 := (V_a1.ext E2)
  have ne7 : a1 ≠ b5 := Nat.ne_of_lt (Nat.lt_of_lt_of_le F6.lt (Nat.le_of_eq g5.symm))
  have F8 := (V_a2.ext E2)
  have ne9 : a2 ≠ b5 := Nat.ne_of_lt (Nat.lt_of_lt_of_le F8.lt (Nat.le_of_eq g5.symm))
  have ne10 : b2 ≠ b5 := Nat.ne_of_lt (Nat.lt_of_lt_of_le V_b2.lt (Nat.le_of_eq g5.symm))
  have g_b5 : n0 ≤ b5 := Nat.le_trans (Nat.le_trans Z0 K2.1) (Nat.le_of_eq g5.symm)
  have sz_b5 : h0.size ≤ b5 := Nat.le_trans K2.1 (Nat.le_of_eq g5.symm)
  have K5 : Keep h0 h5 [] := K2.ext E5
  have V_b5 : AV Z h5 b5 (.array .boolean) (0 : Int32) [] := AV.new A5 (by decide)
  have Kc5 : AK h5 b5 k5 := ⟨_, A5.1, rfl⟩
  obtain ⟨T11, h11, k11, X11, e11, E11, A11, st11⟩ := newP X5 hx hZ (hw _ (List.mem_of_getElem? (i := 8) rfl)) e5 (g := (mkF m 119 (Lq1n0 a1 a2 p3 b2 b5 (kI 0) kU kU kU) [(.int (0 : Int32))])) rfl (hb hby d1_119) rfl (by decide) (cap := 0) (by decide) (by decide) (by decide) (by decide)
  obtain ⟨b11, g11⟩ : ∃ z, z = h5.size := ⟨_, rfl⟩
  rw [← g11] at A11 st11
  have F12 := (F6.ext E5)
  have ne13 : a1 ≠ b11 := Nat.ne_of_lt (Nat.lt_of_lt_of_le F12.lt (Nat.le_of_eq g11.symm))
  have F14 := (F8.ext E5)
  have ne15 : a2 ≠ b11 := Nat.ne_of_lt (Nat.lt_of_lt_of_le F14.lt (Nat.le_of_eq g11.symm))
  have F16 := (V_b2.ext E5)
  have ne17 : b2 ≠ b11 := Nat.ne_of_lt (Nat.lt_of_lt_of_le F16.lt (Nat.le_of_eq g11.symm))
  have ne18 : b5 ≠ b11 := Nat.ne_of_lt (Nat.lt_of_lt_of_le V_b5.lt (Nat.le_of_eq g11.symm))
  have g_b11 : n0 ≤ b11 := Nat.le_trans (Nat.le_trans Z0 K5.1) (Nat.le_of_eq g11.symm)
  have sz_b11 : h0.size ≤ b11 := Nat.le_trans K5.1 (Nat.le_of_eq g11.symm)
  have K11 : Keep h0 h11 [] := K5.ext E11
  have V_b11 : AV Z h11 b11 .boolean (0 : Int32) [] := AV.new A11 (by decide)
  obtain ⟨T19, h19, k19, X19, e19, E19, A19, st19⟩ := newP X11 hx hZ (hw _ (List.mem_of_getElem? (i := 0) rfl)) e11 (g := (mkF m 173 (Lq1n0 a1 a2 p3 b2 b5 (kI 0) (kR b11) (kI p3) (kI (-1))) [(.int (0 : Int32))])) rfl (hb hby d1_173) rfl (by decide) (cap := 0) (by decide) (by decide) (by decide) (by decide)
  obtain ⟨b19, g19⟩ : ∃ z, z = h11.size := ⟨_, rfl⟩
  rw [← g19] at A19 st19
  have F20 := (F12.ext E11)
  have ne21 : a1 ≠ b19 := Nat.ne_of_lt (Nat.lt_of_lt_of_le F20.lt (Nat.le_of_eq g19.symm))
  have F22 := (F14.ext E11)
  have ne23 : a2 ≠ b19 := Nat.ne_of_lt (Nat.lt_of_lt_of_le F22.lt (Nat.le_of_eq g19.symm))
  have F24 := (F16.ext E11)
  have ne25 : b2 ≠ b19 := Nat.ne_of_lt (Nat.lt_of_lt_of_le F24.lt (Nat.le_of_eq g19.symm))
  have F26 := (V_b5.ext E11)
  have ne27 : b5 ≠ b19 := Nat.ne_of_lt (Nat.lt_of_lt_of_le F26.lt (Nat.le_of_eq g19.symm))
  have ne28 : b11 ≠ b19 := Nat.ne_of_lt (Nat.lt_of_lt_of_le V_b11.lt (Nat.le_of_eq g19.symm))
  have g_b19 : n0 ≤ b19 := Nat.le_trans (Nat.le_trans Z0 K11.1) (Nat.le_of_eq g19.symm)
  have sz_b19 : h0.size ≤ b19 := Nat.le_trans K11.1 (Nat.le_of_eq g19.symm)
  have K19 : Keep h0 h19 [] := K11.ext E19
  have V_b19 : AV Z h19 b19 .int (0 : Int32) [] := AV.new A19 (by decide)
  obtain ⟨fs, hr, hrun, hended, hW, hsame⟩ := X19.leave (v := some (.ref b19)) (fun h => by rw [Bd.returns] at h; cases h) hlk
  refine ⟨_, _, pre0 _ ?_, hrun, hended, _, _, rfl, ?_, ⟨_, rfl⟩, hW, hsame.mono (by decide) (by decide)⟩
  · show Steps _ _ _ (s₁.setTop (mkF m 0 #[(kR a1), (kR a2), (kI p3), kU, kU, kU, kU, kU, kU, kU, kU, kU] [])) _
    refine XS.aloadN X0.here hx rfl (hb hby d1_0) rfl rfl ?_
    refine X0.arraylength hx (by rw [e0]; exact A1.1) (State.isArrayOf_alike hZ.alike A1.2.1) (g := (mkF m 1 #[(kR a1), (kR a2), (kI p3), kU, kU, kU, kU, kU, kU, kU, kU, kU] [(.ref a1)])) rfl rfl (hb hby d1_1) _ ?_
    rw [AV.len S1 Nl1 M1]
    refine XS.istoreN X0.here hx rfl (hb hby d1_2) rfl (l' := #[(kR a1), (kR a2), (kI p3), (kI 0), kU, kU, kU, kU, kU, kU, kU, kU]) rfl ?_
    show Steps _ _ _ (s₁.setTop (mkF m 3 #[(kR a1), (kR a2), (kI p3), (kI 0), kU, kU, kU, kU, kU, kU, kU, kU] [])) _
    refine XS.iloadN X0.here hx rfl (hb hby d1_3) rfl ?_
    refine XS.iconst X0.here hx rfl (hb hby d1_4) ?_
    refine XS.iadd X0.here hx rfl (hb hby d1_5) rfl ?_
    refine st2 _ ?_
    show Steps _ _ _ (T2.setTop (mkF m 8 #[(kR a1), (kR a2), (kI p3), (kI 0), kU, kU, kU, kU, kU, kU, kU, kU] [(.ref b2)])) _
    refine XS.astore X2.here hx rfl (hb hby d1_8) rfl rfl (l' := #[(kR a1), (kR a2), (kI p3), (kI 0), (kR b2), kU, kU, kU, kU, kU, kU, kU]) rfl ?_
    refine XS.iloadN X2.here hx rfl (hb hby d1_10) rfl ?_
    refine st5 _ ?_
    refine XS.astore X5.here hx rfl (hb hby d1_14) rfl rfl (l' := (Lq1n0 a1 a2 p3 b2 b5 kU kU kU kU)) rfl ?_
    show Steps _ _ _ (T5.setTop (mkF m 16 (Lq1n0 a1 a2 p3 b2 b5 kU kU kU kU) [])) _
    refine XS.iconst X5.here hx rfl (hb hby d1_16) ?_
    refine XS.istore X5.here hx rfl (hb hby d1_17) rfl (l' := (Lq1n0 a1 a2 p3 b2 b5 (kI 0) kU kU kU)) rfl ?_
    refine XS.iload X5.here hx rfl (hb hby d1_19) rfl ?_
    show Steps _ _ _ (T5.setTop (mkF m 21 (Lq1n0 a1 a2 p3 b2 b5 (kI 0) kU kU kU) [(.int (0 : Int32))])) _
    refine XS.iloadN X5.here hx rfl (hb hby d1_21) rfl ?_
    refine XS.icmpYes X5.here hx rfl (pc0 := 22) (pc' := 115) rfl (hb hby d1_22) rfl (flt (by decide : ¬ ((0 : Int32) < (0 : Int32)))).2.1 (by decide) (by decide) ?_
    refine XS.iconst X5.here hx rfl (hb hby d1_115) ?_
    show Steps _ _ _ (T5.setTop (mkF m 116 (Lq1n0 a1 a2 p3 b2 b5 (kI 0) kU kU kU) [(.int (0 : Int32))])) _
    refine XS.istore X5.here hx rfl (hb hby d1_116) rfl (l' := (Lq1n0 a1 a2 p3 b2 b5 (kI 0) kU kU kU)) rfl ?_
    refine XS.iloadN X5.here hx rfl (hb hby d1_118) rfl ?_
    refine st11 _ ?_
    refine XS.astore X11.here hx rfl (hb hby d1_121) rfl rfl (l' := (Lq1n0 a1 a2 p3 b2 b5 (kI 0) (kR b11) kU kU)) rfl ?_
    show Steps _ _ _ (T11.setTop (mkF m 123 (Lq1n0 a1 a2 p3 b2 b5 (kI 0) (kR b11) kU kU) [])) _
    refine XS.iloadN X11.here hx rfl (hb hby d1_123) rfl ?_
    refine XS.istore X11.here hx rfl (hb hby d1_124) rfl (l' := (Lq1n0 a1 a2 p3 b2 b5 (kI 0) (kR b11) (kI p3) kU)) rfl ?_
    refine XS.iloadN X11.here hx rfl (hb hby d1_126) rfl ?_
    show Steps _ _ _ (T11.setTop (mkF m 127 (Lq1n0 a1 a2 p3 b2 b5 (kI 0) (kR b11) (kI p3) kU) [(.int (0 : Int32))])) _
    refine XS.iconst X11.here hx rfl (hb hby d1_127) ?_
    refine XS.isub X11.here hx rfl (hb hby d1_128) rfl ?_
    refine XS.istore X11.here hx rfl (hb hby d1_129) rfl (l' := (Lq1n0 a1 a2 p3 b2 b5 (kI 0) (kR b11) (kI p3) (kI (-1)))) rfl ?_
    show Steps _ _ _ (T11.setTop (mkF m 131 (Lq1n0 a1 a2 p3 b2 b5 (kI 0) (kR b11) (kI p3) (kI (-1))) [])) _
    refine XS.iload X11.here hx rfl (hb hby d1_131) rfl ?_
    refine XS.ifYes X11.here hx rfl (pc0 := 133) (pc' := 171) rfl (hb hby d1_133) rfl ((if0 _ _).trans (tlt (by decide : (-1 : Int32) < (0 : Int32))).1) (by decide) (by decide) ?_
    refine XS.iload X11.here hx rfl (hb hby d1_171) rfl ?_
    refine st19 _ ?_
    show Steps _ _ _ (T19.setTop (mkF m 175 (Lq1n0 a1 a2 p3 b2 b5 (kI 0) (kR b11) (kI p3) (kI (-1))) [(.ref b19)])) _
    refine XS.astore X19.here hx rfl (hb hby d1_175) rfl rfl (l' := (Lq1n0 a1 a2 p3 b2 b5 (kI 0) (kR b11) (kI p3) (kR b19))) rfl ?_
    refine XS.iconst X19.here hx rfl (hb hby d1_177) ?_
    refine XS.istore X19.here hx rfl (hb hby d1_178) rfl (l' := #[(kR a1), (kR a2), (kI p3), (kI 0), (kR b2), (kR b5), (kI 0), (kR b11), (kI p3), (kR b19), (kI 0), kU]) rfl ?_
    show Steps _ _ _ (T19.setTop (mkF m 180 #[(kR a1), (kR a2), (kI p3), (kI 0), (kR b2), (kR b5), (kI 0), (kR b11), (kI p3), (kR b19), (kI 0), kU] [])) _
    refine XS.iconst X19.here hx rfl (hb hby d1_180) ?_
    refine XS.istore X19.here hx rfl (hb hby d1_181) rfl (l' := #[(kR a1), (kR a2), (kI p3), (kI 0), (kR b2), (kR b5), (kI 0), (kR b11), (kI p3), (kR b19), (kI 0), (kI 0)]) rfl ?_
    refine XS.iload X19.here hx rfl (hb hby d1_183) rfl ?_
    show Steps _ _ _ (T19.setTop (mkF m 185 #[(kR a1), (kR a2), (kI p3), (kI 0), (kR b2), (kR b5), (kI 0), (kR b11), (kI p3), (kR b19), (kI 0), (kI 0)] [(.int (0 : Int32))])) _
    refine XS.iloadN X19.here hx rfl (hb hby d1_185) rfl ?_
    refine XS.icmpYes X19.here hx rfl (pc0 := 186) (pc' := 213) rfl (hb hby d1_186) rfl (flt (by decide : ¬ ((0 : Int32) < (0 : Int32)))).2.1 (by decide) (by decide) ?_
    refine XS.aload X19.here hx rfl (hb hby d1_213) rfl rfl ?_
    show Steps _ _ _ (T19.setTop (mkF m 215 #[(kR a1), (kR a2), (kI p3), (kI 0), (kR b2), (kR b5), (kI 0), (kR b11), (kI p3), (kR b19), (kI 0), (kI 0)] [(.ref b19)])) _
    jvm_step X19.here [X19.here.top, hx, (hb hby d1_215), X19.method', Bd.returns, Value.isRef, FieldType.isReference]
    first | (intro acts; rw [hr _ acts rfl rfl rfl]) | rw [hr _ _ rfl rfl rfl]
    exact Steps.refl _
  · show Q1n0 Z a1 a2 p3 h0 n0 _ T19.heap _
    rw [e19]
    exact ⟨b19, (0 : Int32), [], rfl, N0, K19, g_b19, sz_b19, V_b19, ⟨rfl, rfl, own_fin hcap ⟨Int.le_refl _, hcap.1⟩ ⟨Int.le_refl _, hcap.1⟩ ⟨Int.le_refl _, hcap.1⟩ own_vr0 own_vr0 own_vr0 own_it0 own_it0 own_it0 (Or.inl ⟨rfl, rfl, rfl⟩) (Or.inl ⟨rfl, rfl, rfl⟩) (Or.inl ⟨rfl, rfl, rfl⟩)⟩⟩
theorem d1_25 : decode prog_60_method_2_code 25 = .ok (.aload 5, 2) := by decide +kernel
theorem d1_27 : decode prog_60_method_2_code 27 = .ok (.iload 6, 2) := by decide +kernel
theorem d1_29 : decode prog_60_method_2_code 29 = .ok (.iload_n 2, 1) := by decide +kernel
theorem d1_30 : decode prog_60_method_2_code 30 = .ok (.iconst 1, 1) := by decide +kernel
theorem d1_31 : decode prog_60_method_2_code 31 = .ok (.iadd, 1) := by decide +kernel
theorem d1_32 : decode prog_60_method_2_code 32 = .ok (.newarray .boolean, 2) := by decide +kernel
theorem d1_34 : decode prog_60_method_2_code 34 = .ok (.aastore, 1) := by decide +kernel
theorem d1_109 : decode prog_60_method_2_code 109 = .ok (.iinc 6 1, 3) := by decide +kernel
theorem d1_112 : decode prog_60_method_2_code 112 = .ok (.goto (-93), 3) := by decide +kernel
theorem d1_136 : decode prog_60_method_2_code 136 = .ok (.aload 5, 2) := by decide +kernel
theorem d1_138 : decode prog_60_method_2_code 138 = .ok (.iload 9, 2) := by decide +kernel
theorem d1_140 : decode prog_60_method_2_code 140 = .ok (.aaload, 1) := by decide +kernel
theorem d1_141 : decode prog_60_method_2_code 141 = .ok (.iload 8, 2) := by decide +kernel
theorem d1_143 : decode prog_60_method_2_code 143 = .ok (.baload, 1) := by decide +kernel
theorem d1_144 : decode prog_60_method_2_code 144 = .ok (.ifCond .eq 21, 3) := by decide +kernel
theorem d1_165 : decode prog_60_method_2_code 165 = .ok (.iinc 9 (-1), 3) := by decide +kernel
theorem d1_168 : decode prog_60_method_2_code 168 = .ok (.goto (-37), 3) := by decide +kernel
theorem d1_189 : decode prog_60_method_2_code 189 = .ok (.aload 7, 2) := by decide +kernel
theorem d1_191 : decode prog_60_method_2_code 191 = .ok (.iload 11, 2) := by decide +kernel
theorem d1_193 : decode prog_60_method_2_code 193 = .ok (.baload, 1) := by decide +kernel
theorem d1_194 : decode prog_60_method_2_code 194 = .ok (.ifCond .eq 13, 3) := by decide +kernel
theorem d1_207 : decode prog_60_method_2_code 207 = .ok (.iinc 11 1, 3) := by decide +kernel
theorem d1_210 : decode prog_60_method_2_code 210 = .ok (.goto (-27), 3) := by decide +kernel
theorem d1_147 : decode prog_60_method_2_code 147 = .ok (.aload 7, 2) := by decide +kernel
theorem d1_149 : decode prog_60_method_2_code 149 = .ok (.iload 9, 2) := by decide +kernel
theorem d1_151 : decode prog_60_method_2_code 151 = .ok (.iconst 1, 1) := by decide +kernel
theorem d1_152 : decode prog_60_method_2_code 152 = .ok (.bastore, 1) := by decide +kernel
theorem d1_153 : decode prog_60_method_2_code 153 = .ok (.iinc 6 1, 3) := by decide +kernel
theorem d1_156 : decode prog_60_method_2_code 156 = .ok (.iload 8, 2) := by decide +kernel
theorem d1_158 : decode prog_60_method_2_code 158 = .ok (.aload_n 0, 1) := by decide +kernel
theorem d1_159 : decode prog_60_method_2_code 159 = .ok (.iload 9, 2) := by decide +kernel
theorem d1_161 : decode prog_60_method_2_code 161 = .ok (.iaload, 1) := by decide +kernel
theorem d1_162 : decode prog_60_method_2_code 162 = .ok (.isub, 1) := by decide +kernel
theorem d1_163 : decode prog_60_method_2_code 163 = .ok (.istore 8, 2) := by decide +kernel
theorem d1_197 : decode prog_60_method_2_code 197 = .ok (.aload 9, 2) := by decide +kernel
theorem d1_199 : decode prog_60_method_2_code 199 = .ok (.iload 10, 2) := by decide +kernel
theorem d1_201 : decode prog_60_method_2_code 201 = .ok (.iinc 10 1, 3) := by decide +kernel
theorem d1_204 : decode prog_60_method_2_code 204 = .ok (.iload 11, 2) := by decide +kernel
theorem d1_206 : decode prog_60_method_2_code 206 = .ok (.iastore, 1) := by decide +kernel
theorem d1_35 : decode prog_60_method_2_code 35 = .ok (.aload_n 1, 1) := by decide +kernel
theorem d1_36 : decode prog_60_method_2_code 36 = .ok (.iload 6, 2) := by decide +kernel
theorem d1_38 : decode prog_60_method_2_code 38 = .ok (.laload, 1) := by decide +kernel
theorem d1_39 : decode prog_60_method_2_code 39 = .ok (.lconst 0, 1) := by decide +kernel
theorem d1_40 : decode prog_60_method_2_code 40 = .ok (.lcmp, 1) := by decide +kernel
theorem d1_41 : decode prog_60_method_2_code 41 = .ok (.ifCond .gt 6, 3) := by decide +kernel
theorem d1_47 : decode prog_60_method_2_code 47 = .ok (.iload_n 2, 1) := by decide +kernel
theorem d1_48 : decode prog_60_method_2_code 48 = .ok (.istore 7, 2) := by decide +kernel
theorem d1_50 : decode prog_60_method_2_code 50 = .ok (.iload 7, 2) := by decide +kernel
theorem d1_52 : decode prog_60_method_2_code 52 = .ok (.aload_n 0, 1) := by decide +kernel
theorem d1_53 : decode prog_60_method_2_code 53 = .ok (.iload 6, 2) := by decide +kernel
theorem d1_55 : decode prog_60_method_2_code 55 = .ok (.iaload, 1) := by decide +kernel
theorem d1_56 : decode prog_60_method_2_code 56 = .ok (.if_icmp .lt 53, 3) := by decide +kernel
theorem d1_59 : decode prog_60_method_2_code 59 = .ok (.aload 4, 2) := by decide +kernel
theorem d1_61 : decode prog_60_method_2_code 61 = .ok (.iload 7, 2) := by decide +kernel
theorem d1_63 : decode prog_60_method_2_code 63 = .ok (.aload_n 0, 1) := by decide +kernel
theorem d1_64 : decode prog_60_method_2_code 64 = .ok (.iload 6, 2) := by decide +kernel
theorem d1_66 : decode prog_60_method_2_code 66 = .ok (.iaload, 1) := by decide +kernel
theorem d1_67 : decode prog_60_method_2_code 67 = .ok (.isub, 1) := by decide +kernel
theorem d1_68 : decode prog_60_method_2_code 68 = .ok (.laload, 1) := by decide +kernel
theorem d1_69 : decode prog_60_method_2_code 69 = .ok (.aload_n 1, 1) := by decide +kernel
theorem d1_70 : decode prog_60_method_2_code 70 = .ok (.iload 6, 2) := by decide +kernel
theorem d1_72 : decode prog_60_method_2_code 72 = .ok (.laload, 1) := by decide +kernel
theorem d1_73 : decode prog_60_method_2_code 73 = .ok (.ladd, 1) := by decide +kernel
theorem d1_74 : decode prog_60_method_2_code 74 = .ok (.lstore 8, 2) := by decide +kernel
theorem d1_76 : decode prog_60_method_2_code 76 = .ok (.lload 8, 2) := by decide +kernel
theorem d1_78 : decode prog_60_method_2_code 78 = .ok (.aload 4, 2) := by decide +kernel
theorem d1_80 : decode prog_60_method_2_code 80 = .ok (.iload 7, 2) := by decide +kernel
theorem d1_82 : decode prog_60_method_2_code 82 = .ok (.laload, 1) := by decide +kernel
theorem d1_83 : decode prog_60_method_2_code 83 = .ok (.lcmp, 1) := by decide +kernel
theorem d1_84 : decode prog_60_method_2_code 84 = .ok (.ifCond .le 19, 3) := by decide +kernel
theorem d1_87 : decode prog_60_method_2_code 87 = .ok (.aload 4, 2) := by decide +kernel
theorem d1_89 : decode prog_60_method_2_code 89 = .ok (.iload 7, 2) := by decide +kernel
theorem d1_91 : decode prog_60_method_2_code 91 = .ok (.lload 8, 2) := by decide +kernel
theorem d1_93 : decode prog_60_method_2_code 93 = .ok (.lastore, 1) := by decide +kernel
theorem d1_94 : decode prog_60_method_2_code 94 = .ok (.aload 5, 2) := by decide +kernel
theorem d1_96 : decode prog_60_method_2_code 96 = .ok (.iload 6, 2) := by decide +kernel
theorem d1_98 : decode prog_60_method_2_code 98 = .ok (.aaload, 1) := by decide +kernel
theorem d1_99 : decode prog_60_method_2_code 99 = .ok (.iload 7, 2) := by decide +kernel
theorem d1_101 : decode prog_60_method_2_code 101 = .ok (.iconst 1, 1) := by decide +kernel
theorem d1_102 : decode prog_60_method_2_code 102 = .ok (.bastore, 1) := by decide +kernel
theorem d1_103 : decode prog_60_method_2_code 103 = .ok (.iinc 7 (-1), 3) := by decide +kernel
theorem d1_106 : decode prog_60_method_2_code 106 = .ok (.goto (-56), 3) := by decide +kernel
theorem d1_44 : decode prog_60_method_2_code 44 = .ok (.goto 65, 3) := by decide +kernel
abbrev Lq1n1 (a1 : Addr) (a2 : Addr) (p3 : Int32) (b2 : Addr) (b5 : Addr) (x6 : Slot) (x7 : Slot) (x8 : Slot) (x9 : Slot) : Array Slot := #[.val (.ref a1), .val (.ref a2), .val (.int p3), .val (.int (1 : Int32)), .val (.ref b2), .val (.ref b5), x6, x7, x8, x9, .unset, .unset]
theorem ef_1n1 (m : MethodId) (x0 : Addr) (x1 : Addr) (x2 : Int32) : entryFrame m #[(.ref x0), (.ref x1), (.int x2)] 12 = mkF m 0 #[.val (.ref x0), .val (.ref x1), .val (.int x2), .unset, .unset, .unset, .unset, .unset, .unset, .unset, .unset, .unset] [] := by first | (simp [entryFrame, mkF, argsToLocals, Value.category]; done) | rfl
def Q1n1 (Z : State) (a1 : Addr) (a2 : Addr) (p3 : Int32) (s0 : Int32) (v0 : Int64) (h0 : Heap) (n0 : Nat) (v : Option Value) (h : Heap) (L : List Loc) : Prop := ∃ r1 : Addr, ∃ zr : Int32, ∃ vr : List Value, v = some (.ref r1) ∧ Fr n0 L ∧ Keep h0 h [] ∧ n0 ≤ r1 ∧ h0.size ≤ r1 ∧ AV Z h r1 .int zr vr ∧ ((zr = (0 : Int32) ∧ vr = [] ∧ own_good p3 s0 (0 : Int32) (0 : Int32) v0 (0 : Int64) (0 : Int64) false false false) ∨ (zr = (1 : Int32) ∧ vr = [.int (0 : Int32)] ∧ own_good p3 s0 (0 : Int32) (0 : Int32) v0 (0 : Int64) (0 : Int64) true false false))
set_option maxRecDepth 65536 in
set_option maxHeartbeats 40000000 in
theorem rm1n1 (l : Launch) (Z : State) (a0 : Array Value) (hw : ∀ d ∈ tables_1, d.before a0 Z = true) (ws : List Jvm.Cond) (a1 : Addr) (a2 : Addr) (p3 : Int32) (s0 : Int32) (v0 : Int64) (h0 : Heap) (n0 : Nat) (Z0 : n0 ≤ h0.size) (V_a1 : AV Z h0 a1 .int (1 : Int32) [(.int s0)]) (V_a2 : AV Z h0 a2 .long (1 : Int32) [(.long v0)]) (hcap : own_cap p3) (hs0 : own_rg s0 p3) (hv0 : own_vr v0) :
    MetFree l (⟨"com/example/hindsight/hindsight/solvers/Knapsack", "heaviest", "([I[JI)[I"⟩ : MethodName) (head1 (Jvm.Cond.code (⟨"com/example/hindsight/hindsight/solvers/Knapsack", "heaviest", "([I[JI)[I"⟩ : MethodName) prog_60_method_2_code 12 (some (.array .int)) :: ws) ({ frames := 0, cells := 5, slots := 35, locals := 0 } : Room)) (fun a U => a = #[(.ref a1), (.ref a2), (.int p3)] ∧ Z.Warmed39 U.vm ∧ U.heap = h0) (fun _ _ _ _ _ => True) (fun _ U o U' => ∃ v L, o = .returned v ∧ Q1n1 Z a1 a2 p3 s0 v0 h0 n0 v U'.heap L ∧ FrameEnd U o U' L ({ frames := 0, cells := 5, slots := 35, locals := 0 } : Room).cells ({ frames := 0, cells := 5, slots := 35, locals := 0 } : Room).slots) := by
  refine MetFree.of_bodySF (plainFor_of_name pn_0) hisR ?_
  intro p e s m args below meth c s₁ Bd hml0 hP hK
  obtain ⟨rfl, hZ, hh⟩ := hP
  have hx := Bd.exec
  have hlk : meth.locks = false := by first | exact BodyLoose.notSynchronized Bd | exact Body.notSynchronized Bd
  have hby := Bd.bytes
  have hml : c.maxLocals = 12 := hml0
  have hown : s.vm.findClass "com/example/hindsight/hindsight/solvers/Knapsack" = some m.cls := findClass_of_methodNamed Bd.named
  have hnm := (name_of_methodNamed Bd.named Bd.method).1
  have X0 : Stand p l e ({ frames := 0, cells := 5, slots := 35, locals := 0 } : Room) s m #[(.ref a1), (.ref a2), (.int p3)] below meth c s₁ [] 0 0 := Stand.of_body Bd
  have e0 : s₁.heap = h0 := by rw [← hh, Bd.state]; rfl
  have N0 := Fr.nil n0
  have pre0 : ∀ t, Steps p.tables e below (s₁.setTop (mkF m 0 #[.val (.ref a1), .val (.ref a2), .val (.int p3), .unset, .unset, .unset, .unset, .unset, .unset, .unset, .unset, .unset] [])) t → Steps p.tables e below (s₁.setTop (entryFrame m #[(.ref a1), (.ref a2), (.int p3)] 12)) t := fun t k => castTop (ef_1n1 m a1 a2 p3) k
  obtain ⟨cl1, A1, S1, Nl1, M1⟩ := id V_a1
  obtain ⟨T2, h2, k2, X2, e2, E2, A2, st2⟩ := newP X0 hx hZ (hw _ (List.mem_of_getElem? (i := 1) rfl)) e0 (g := (mkF m 6 #[(kR a1), (kR a2), (kI p3), (kI 1), kU, kU, kU, kU, kU, kU, kU, kU] [(.int (p3 + (1 : Int32)))])) rfl (hb hby d1_6) rfl (own_cneg hcap) (cap := 16) (own_cle hcap) (by decide) (by decide) (by decide)
  obtain ⟨b2, g2⟩ : ∃ z, z = h0.size := ⟨_, rfl⟩
  rw [← g2] at A2 st2
  have ne3 : a1 ≠ b2 := Nat.ne_of_lt (Nat.lt_of_lt_of_le V_a1.lt (Nat.le_of_eq g2.symm))
  have ne4 : a2 ≠ b2 := Nat.ne_of_lt (Nat.lt_of_lt_of_le V_a2.lt (Nat.le_of_eq g2.symm))
  have g_b2 : n0 ≤ b2 := Nat.le_trans Z0 (Nat.le_of_eq g2.symm)
  have sz_b2 : h0.size ≤ b2 := Nat.le_trans (Keep.refl h0 []).1 (Nat.le_of_eq g2.symm)
  have K2 : Keep h0 h2 [] := (Keep.refl h0 []).ext E2
  have V_b2 : AJ Z h2 b2 .long (p3 + (1 : Int32)) (fun _ => 0) := AJ.new A2 (own_cneg hcap) rfl
  obtain ⟨T5, h5, k5, X5, e5, E5, A5, Ex5, O5, st5⟩ := newRA X2 hx hZ hown (C := "[Z") (ty := .boolean) (by decide) (hw _ (List.mem_of_getElem? (i := 6) rfl)) (hw _ (List.mem_of_getElem? (i := 7) rfl)) e2 (g := (mkF m 11 #[(kR a1), (kR a2), (kI p3), (kI 1), (kR b2), kU, kU, kU, kU, kU, kU, kU] [(.int (1 : Int32))])) rfl (hb hby d1_11) rfl (by decide) (cap := 1) (by decide) (by decide) (by decide) (by decide) (ad := "[[Z") (by decide)
  obtain ⟨b5, g5⟩ : ∃ z, z = h2.size := ⟨_, rfl⟩
  rw [← g5] at A5 st5
  have F6 := (V_a1.ext E2)
  have ne7 : a1 ≠ b5 := Nat.ne_of_lt (Nat.lt_of_lt_of_le F6.lt (Nat.le_of_eq g5.symm))
  have F8 := (V_a2.ext E2)
  have ne9 : a2 ≠ b5 := Nat.ne_of_lt (Nat.lt_of_lt_of_le F8.lt (Nat.le_of_eq g5.symm))
  have ne10 : b2 ≠ b5 := Nat.ne_of_lt (Nat.lt_of_lt_of_le V_b2.lt (Nat.le_of_eq g5.symm))
  have g_b5 : n0 ≤ b5 := Nat.le_trans (Nat.le_trans Z0 K2.1) (Nat.le_of_eq g5.symm)
  have sz_b5 : h0.size ≤ b5 := Nat.le_trans K2.1 (Nat.le_of_eq g5.symm)
  have K5 : Keep h0 h5 [] := K2.ext E5
  have V_b5 : AV Z h5 b5 (.array .boolean) (1 : Int32) [.null] := AV.new A5 (by decide)
  have Kc5 : AK h5 b5 k5 := ⟨_, A5.1, rfl⟩
  obtain ⟨T11, h11, k11, X11, e11, E11, A11, Ex11, st11⟩ := newPE X5 hx hZ (hw _ (List.mem_of_getElem? (i := 8) rfl)) e5 (g := (mkF m 32 (Lq1n1 a1 a2 p3 b2 b5 (kI 0) kU kU kU) [(.int (p3 + (1 : Int32))), (.int (0 : Int32)), (.ref b5)])) rfl (hb hby d1_32) rfl (own_cneg hcap) (cap := 16) (own_cle hcap) (by decide) (by decide) (by decide) (ad := "[Z") (by decide)
  obtain ⟨b11, g11⟩ : ∃ z, z = h5.size := ⟨_, rfl⟩
  rw [← g11] at A11 st11 Ex11
  have F12 := (F6.ext E5)
  have ne13 : a1 ≠ b11 := Nat.ne_of_lt (Nat.lt_of_lt_of_le F12.lt (Nat.le_of_eq g11.symm))
  have F14 := (F8.ext E5)
  have ne15 : a2 ≠ b11 := Nat.ne_of_lt (Nat.lt_of_lt_of_le F14.lt (Nat.le_of_eq g11.symm))
  have F16 := (V_b2.ext E5)
  have ne17 : b2 ≠ b11 := Nat.ne_of_lt (Nat.lt_of_lt_of_le F16.lt (Nat.le_of_eq g11.symm))
  have ne18 : b5 ≠ b11 := Nat.ne_of_lt (Nat.lt_of_lt_of_le V_b5.lt (Nat.le_of_eq g11.symm))
  have g_b11 : n0 ≤ b11 := Nat.le_trans (Nat.le_trans Z0 K5.1) (Nat.le_of_eq g11.symm)
  have sz_b11 : h0.size ≤ b11 := Nat.le_trans K5.1 (Nat.le_of_eq g11.symm)
  have K11 : Keep h0 h11 [] := K5.ext E11
  have V_b11 : AI Z h11 b11 .boolean (p3 + (1 : Int32)) (fun _ => 0) := AI.new A11 (own_cneg hcap) rfl
  have F20 := (V_b5.ext E11)
  obtain ⟨cl19, A19, S19, Nl19, M19⟩ := id F20
  have hin19 : ¬ ((0 : Int32) < 0 ∨ cl19.slots.size ≤ ((0 : Int32)).toNatClampNeg) := AV.inb S19 Nl19 ⟨by decide, by decide⟩
  have F21 := (Kc5.ext E11)
  obtain ⟨T19, h19, X19, e19, W19, st19⟩ := stR X11 hx hZ e11 A19 (j := (0 : Int32)) hin19 rfl (Sto.ofVA A19 (F21.cls A19) O5 (Ins.self Ex11)) (g := (mkF m 34 (Lq1n1 a1 a2 p3 b2 b5 (kI 0) kU kU kU) [(.ref b11), (.int (0 : Int32)), (.ref b5)])) rfl rfl (hb hby d1_34)
  have V19 : AV Z h19 b5 (.array .boolean) (1 : Int32) [(.ref b11)] := AV.set A19 S19 Nl19 M19 W19
  have K19 : Keep h0 h19 [] := K11.wr W19 (Or.inr sz_b5)
  have N19 := Fr.snoc X19 N0 g_b5
  have pre23 : ∀ t, Steps p.tables e below (T19.setTop (mkF m 35 (Lq1n1 a1 a2 p3 b2 b5 (kI 0) kU kU kU) [])) t → Steps p.tables e below (s₁.setTop (entryFrame m #[(.ref a1), (.ref a2), (.int p3)] 12)) t := fun t k => pre0 t (by
    show Steps _ _ _ (s₁.setTop (mkF m 0 #[(kR a1), (kR a2), (kI p3), kU, kU, kU, kU, kU, kU, kU, kU, kU] [])) _
    refine XS.aloadN X0.here hx rfl (hb hby d1_0) rfl rfl ?_
    refine X0.arraylength hx (by rw [e0]; exact A1.1) (State.isArrayOf_alike hZ.alike A1.2.1) (g := (mkF m 1 #[(kR a1), (kR a2), (kI p3), kU, kU, kU, kU, kU, kU, kU, kU, kU] [(.ref a1)])) rfl rfl (hb hby d1_1) _ ?_
    rw [AV.len S1 Nl1 M1]
    refine XS.istoreN X0.here hx rfl (hb hby d1_2) rfl (l' := #[(kR a1), (kR a2), (kI p3), (kI 1), kU, kU, kU, kU, kU, kU, kU, kU]) rfl ?_
    show Steps _ _ _ (s₁.setTop (mkF m 3 #[(kR a1), (kR a2), (kI p3), (kI 1), kU, kU, kU, kU, kU, kU, kU, kU] [])) _
    refine XS.iloadN X0.here hx rfl (hb hby d1_3) rfl ?_
    refine XS.iconst X0.here hx rfl (hb hby d1_4) ?_
    refine XS.iadd X0.here hx rfl (hb hby d1_5) rfl ?_
    refine st2 _ ?_
    show Steps _ _ _ (T2.setTop (mkF m 8 #[(kR a1), (kR a2), (kI p3), (kI 1), kU, kU, kU, kU, kU, kU, kU, kU] [(.ref b2)])) _
    refine XS.astore X2.here hx rfl (hb hby d1_8) rfl rfl (l' := #[(kR a1), (kR a2), (kI p3), (kI 1), (kR b2), kU, kU, kU, kU, kU, kU, kU]) rfl ?_
    refine XS.iloadN X2.here hx rfl (hb hby d1_10) rfl ?_
    refine st5 _ ?_
    refine XS.astore X5.here hx rfl (hb hby d1_14) rfl rfl (l' := (Lq1n1 a1 a2 p3 b2 b5 kU kU kU kU)) rfl ?_
    show Steps _ _ _ (T5.setTop (mkF m 16 (Lq1n1 a1 a2 p3 b2 b5 kU kU kU kU) [])) _
    refine XS.iconst X5.here hx rfl (hb hby d1_16) ?_
    refine XS.istore X5.here hx rfl (hb hby d1_17) rfl (l' := (Lq1n1 a1 a2 p3 b2 b5 (kI 0) kU kU kU)) rfl ?_
    refine XS.iload X5.here hx rfl (hb hby d1_19) rfl ?_
    show Steps _ _ _ (T5.setTop (mkF m 21 (Lq1n1 a1 a2 p3 b2 b5 (kI 0) kU kU kU) [(.int (0 : Int32))])) _
    refine XS.iloadN X5.here hx rfl (hb hby d1_21) rfl ?_
    refine XS.icmpNo X5.here hx rfl (hb hby d1_22) rfl (tlt (by decide : (0 : Int32) < (1 : Int32))).2.1 ?_
    refine XS.aload X5.here hx rfl (hb hby d1_25) rfl rfl ?_
    show Steps _ _ _ (T5.setTop (mkF m 27 (Lq1n1 a1 a2 p3 b2 b5 (kI 0) kU kU kU) [(.ref b5)])) _
    refine XS.iload X5.here hx rfl (hb hby d1_27) rfl ?_
    refine XS.iloadN X5.here hx rfl (hb hby d1_29) rfl ?_
    refine XS.iconst X5.here hx rfl (hb hby d1_30) ?_
    show Steps _ _ _ (T5.setTop (mkF m 31 (Lq1n1 a1 a2 p3 b2 b5 (kI 0) kU kU kU) [(.int (1 : Int32)), (.int p3), (.int (0 : Int32)), (.ref b5)])) _
    refine XS.iadd X5.here hx rfl (hb hby d1_31) rfl ?_
    refine st11 _ ?_
    refine st19 _ ?_
    exact k)
  refine own_jn (α := State × (List Loc) × Heap × Slot × Slot × Slot × (Nat → Int64) × (Nat → Int32)) (fun a => match a with | (T22, locs22, h22, uc0, ux0, uy0, ub1, ut0) => own_item p3 (fun _ => 0) v0 s0 ub1 ut0 ∧ own_sl uc0 ∧ own_sl2 ux0 uy0 ∧ Stand p l e ({ frames := 0, cells := 5, slots := 35, locals := 0 } : Room) s m #[(.ref a1), (.ref a2), (.int p3)] below meth c T22 locs22 3 33 ∧ T22.heap = h22 ∧ Fr n0 locs22 ∧ Keep h19 h22 [b2, b11] ∧ AJ Z h22 b2 .long (p3 + (1 : Int32)) ub1 ∧ AI Z h22 b11 .boolean (p3 + (1 : Int32)) ut0 ∧ (∀ t, Steps p.tables e below (T22.setTop (mkF m 109 (Lq1n1 a1 a2 p3 b2 b5 (kI 0) uc0 ux0 uy0) [])) t → Steps p.tables e below (s₁.setTop (entryFrame m #[(.ref a1), (.ref a2), (.int p3)] 12)) t)) ?_ ?_
  · rintro ⟨T22, locs22, h22, uc0, ux0, uy0, ub1, ut0⟩ ⟨hI0, hsl_uc0, hsl_ux0, X22, e22, N22, Kl22, Lf22_0, Lf22_1, pre22⟩
    have K24 : Keep h0 h22 [] := K19.trans Kl22 (allS (Or.inr sz_b2) (allS (Or.inr sz_b11) all0))
    obtain ⟨T25, h25, k25, X25, e25, E25, A25, st25⟩ := newP X22 hx hZ (hw _ (List.mem_of_getElem? (i := 8) rfl)) e22 (g := (mkF m 119 (Lq1n1 a1 a2 p3 b2 b5 (kI 0) uc0 ux0 uy0) [(.int (1 : Int32))])) rfl (hb hby d1_119) rfl (by decide) (cap := 1) (by decide) (by decide) (by decide) (by decide)
    obtain ⟨b25, g25⟩ : ∃ z, z = h22.size := ⟨_, rfl⟩
    rw [← g25] at A25 st25
    have F26 := ((Ex11.wr W19).keep Kl22)
    have ne27 : b11 ≠ b25 := Nat.ne_of_lt (Nat.lt_of_lt_of_le F26.lt (Nat.le_of_eq g25.symm))
    have F28 := (((F12.ext E11).other W19 ne7).keep Kl22 (ninS ne3 (ninS ne13 nin0)))
    have ne29 : a1 ≠ b25 := Nat.ne_of_lt (Nat.lt_of_lt_of_le F28.lt (Nat.le_of_eq g25.symm))
    have F30 := (((F14.ext E11).other W19 ne9).keep Kl22 (ninS ne4 (ninS ne15 nin0)))
    have ne31 : a2 ≠ b25 := Nat.ne_of_lt (Nat.lt_of_lt_of_le F30.lt (Nat.le_of_eq g25.symm))
    have F32 := (V19.keep Kl22 (ninS (Ne.symm ne10) (ninS ne18 nin0)))
    have ne33 : b5 ≠ b25 := Nat.ne_of_lt (Nat.lt_of_lt_of_le F32.lt (Nat.le_of_eq g25.symm))
    have ne34 : b2 ≠ b25 := Nat.ne_of_lt (Nat.lt_of_lt_of_le Lf22_0.lt (Nat.le_of_eq g25.symm))
    have g_b25 : n0 ≤ b25 := Nat.le_trans (Nat.le_trans Z0 K24.1) (Nat.le_of_eq g25.symm)
    have sz_b25 : h0.size ≤ b25 := Nat.le_trans K24.1 (Nat.le_of_eq g25.symm)
    have K25 : Keep h0 h25 [] := K24.ext E25
    have V_b25 : AV Z h25 b25 .boolean (1 : Int32) [(.int (0 : Int32))] := AV.new A25 (by decide)
    have F36 := (F32.ext E25)
    obtain ⟨cl35, A35, S35, Nl35, M35⟩ := id F36
    have hin35 : ¬ ((0 : Int32) < 0 ∨ cl35.slots.size ≤ ((0 : Int32)).toNatClampNeg) := AV.inb S35 Nl35 ⟨by decide, by decide⟩
    have hat35 : cl35.slots[((0 : Int32)).toNatClampNeg]? = some (.ref b11) := AV.at S35 rfl
    have F38 := (Lf22_1.ext E25)
    obtain ⟨cl37, A37, S37, M37, G37⟩ := id F38
    have hin37 : ¬ (p3 < 0 ∨ cl37.slots.size ≤ (p3).toNatClampNeg) := inb_of S37 (own_ixr hcap ⟨hcap.1, Int.le_refl _⟩)
    have hat37 : cl37.slots[(p3).toNatClampNeg]? = some (.int (ut0 (p3).toNatClampNeg)) := AI.at S37 G37 hin37
    have pre39 : ∀ t, Steps p.tables e below (T25.setTop (mkF m 144 (Lq1n1 a1 a2 p3 b2 b5 (kI 0) (kR b25) (kI p3) (kI 0)) [(.int (ut0 (p3).toNatClampNeg))])) t → Steps p.tables e below (s₁.setTop (entryFrame m #[(.ref a1), (.ref a2), (.int p3)] 12)) t := fun t k => pre22 t (by
      show Steps _ _ _ (T22.setTop (mkF m 109 (Lq1n1 a1 a2 p3 b2 b5 (kI 0) uc0 ux0 uy0) [])) _
      refine XS.iinc X22.here hx rfl (hb hby d1_109) rfl (l' := (Lq1n1 a1 a2 p3 b2 b5 (kI 1) uc0 ux0 uy0)) rfl ?_
      refine XS.goto X22.here hx rfl (pc0 := 112) (pc' := 19) rfl (hb hby d1_112) (by decide) (by decide) ?_
      show Steps _ _ _ (T22.setTop (mkF m 19 (Lq1n1 a1 a2 p3 b2 b5 (kI 1) uc0 ux0 uy0) [])) _
      refine XS.iload X22.here hx rfl (hb hby d1_19) rfl ?_
      refine XS.iloadN X22.here hx rfl (hb hby d1_21) rfl ?_
      refine XS.icmpYes X22.here hx rfl (pc0 := 22) (pc' := 115) rfl (hb hby d1_22) rfl (flt (by decide : ¬ ((1 : Int32) < (1 : Int32)))).2.1 (by decide) (by decide) ?_
      show Steps _ _ _ (T22.setTop (mkF m 115 (Lq1n1 a1 a2 p3 b2 b5 (kI 1) uc0 ux0 uy0) [])) _
      refine XS.iconst X22.here hx rfl (hb hby d1_115) ?_
      refine XS.istore X22.here hx rfl (hb hby d1_116) rfl (l' := (Lq1n1 a1 a2 p3 b2 b5 (kI 0) uc0 ux0 uy0)) rfl ?_
      refine XS.iloadN X22.here hx rfl (hb hby d1_118) rfl ?_
      refine st25 _ ?_
      show Steps _ _ _ (T25.setTop (mkF m 121 (Lq1n1 a1 a2 p3 b2 b5 (kI 0) uc0 ux0 uy0) [(.ref b25)])) _
      refine XS.astore X25.here hx rfl (hb hby d1_121) rfl rfl (l' := (Lq1n1 a1 a2 p3 b2 b5 (kI 0) (kR b25) ux0 uy0)) (by rcases hsl_uc0 with rfl | ⟨_, rfl⟩ | ⟨_, rfl⟩ <;> rfl) ?_
      refine XS.iloadN X25.here hx rfl (hb hby d1_123) rfl ?_
      refine XS.istore X25.here hx rfl (hb hby d1_124) rfl (l' := (Lq1n1 a1 a2 p3 b2 b5 (kI 0) (kR b25) (kI p3) kU)) (by rcases hsl_ux0 with ⟨rfl, rfl⟩ | ⟨_, rfl, rfl⟩ <;> rfl) ?_
      show Steps _ _ _ (T25.setTop (mkF m 126 (Lq1n1 a1 a2 p3 b2 b5 (kI 0) (kR b25) (kI p3) kU) [])) _
      refine XS.iloadN X25.here hx rfl (hb hby d1_126) rfl ?_
      refine XS.iconst X25.here hx rfl (hb hby d1_127) ?_
      refine XS.isub X25.here hx rfl (hb hby d1_128) rfl ?_
      show Steps _ _ _ (T25.setTop (mkF m 129 (Lq1n1 a1 a2 p3 b2 b5 (kI 0) (kR b25) (kI p3) kU) [(.int (0 : Int32))])) _
      refine XS.istore X25.here hx rfl (hb hby d1_129) rfl (l' := (Lq1n1 a1 a2 p3 b2 b5 (kI 0) (kR b25) (kI p3) (kI 0))) rfl ?_
      refine XS.iload X25.here hx rfl (hb hby d1_131) rfl ?_
      refine XS.ifNo X25.here hx rfl (hb hby d1_133) rfl ((if0 _ _).trans (flt (by decide : ¬ ((0 : Int32) < (0 : Int32)))).1) ?_
      show Steps _ _ _ (T25.setTop (mkF m 136 (Lq1n1 a1 a2 p3 b2 b5 (kI 0) (kR b25) (kI p3) (kI 0)) [])) _
      refine XS.aload X25.here hx rfl (hb hby d1_136) rfl rfl ?_
      refine XS.iload X25.here hx rfl (hb hby d1_138) rfl ?_
      refine X25.aaload hx (j := (0 : Int32)) (v := (.ref b11)) (by rw [e25]; exact A35.1) (State.isArrayOf_alike hZ.alike A35.2.1) rfl A35.2.2 hin35 hat35 (g := (mkF m 140 (Lq1n1 a1 a2 p3 b2 b5 (kI 0) (kR b25) (kI p3) (kI 0)) [(.int (0 : Int32)), (.ref b5)])) rfl rfl (hb hby d1_140) _ ?_
      refine XS.iload X25.here hx rfl (hb hby d1_141) rfl ?_
      refine X25.baloadBooleans hx (j := p3) (v := (.int (ut0 (p3).toNatClampNeg))) (by rw [e25]; exact A37.1) (State.isArrayOf_alike hZ.alike A37.2.1) A37.2.2 hin37 hat37 (g := (mkF m 143 (Lq1n1 a1 a2 p3 b2 b5 (kI 0) (kR b25) (kI p3) (kI 0)) [(.int p3), (.ref b11)])) rfl rfl (hb hby d1_143) _ ?_
      exact k)
    by_cases hc40 : (ut0 (p3).toNatClampNeg) = (0 : Int32)
    · have hT41 : own_tr ut0 s0 p3 false p3 := Or.inl ⟨rfl, hc40, rfl⟩
      obtain ⟨T42, h42, k42, X42, e42, E42, A42, st42⟩ := newP X25 hx hZ (hw _ (List.mem_of_getElem? (i := 0) rfl)) e25 (g := (mkF m 173 (Lq1n1 a1 a2 p3 b2 b5 (kI 0) (kR b25) (kI p3) (kI (-1))) [(.int (0 : Int32))])) rfl (hb hby d1_173) rfl (by decide) (cap := 0) (by decide) (by decide) (by decide) (by decide)
      obtain ⟨b42, g42⟩ : ∃ z, z = h25.size := ⟨_, rfl⟩
      rw [← g42] at A42 st42
      have F43 := (F26.ext E25)
      have ne44 : b11 ≠ b42 := Nat.ne_of_lt (Nat.lt_of_lt_of_le F43.lt (Nat.le_of_eq g42.symm))
      have F45 := (F28.ext E25)
      have ne46 : a1 ≠ b42 := Nat.ne_of_lt (Nat.lt_of_lt_of_le F45.lt (Nat.le_of_eq g42.symm))
      have F47 := (F30.ext E25)
      have ne48 : a2 ≠ b42 := Nat.ne_of_lt (Nat.lt_of_lt_of_le F47.lt (Nat.le_of_eq g42.symm))
      have ne49 : b5 ≠ b42 := Nat.ne_of_lt (Nat.lt_of_lt_of_le F36.lt (Nat.le_of_eq g42.symm))
      have F50 := (Lf22_0.ext E25)
      have ne51 : b2 ≠ b42 := Nat.ne_of_lt (Nat.lt_of_lt_of_le F50.lt (Nat.le_of_eq g42.symm))
      have ne52 : b25 ≠ b42 := Nat.ne_of_lt (Nat.lt_of_lt_of_le V_b25.lt (Nat.le_of_eq g42.symm))
      have g_b42 : n0 ≤ b42 := Nat.le_trans (Nat.le_trans Z0 K25.1) (Nat.le_of_eq g42.symm)
      have sz_b42 : h0.size ≤ b42 := Nat.le_trans K25.1 (Nat.le_of_eq g42.symm)
      have K42 : Keep h0 h42 [] := K25.ext E42
      have V_b42 : AV Z h42 b42 .int (0 : Int32) [] := AV.new A42 (by decide)
      have F54 := (V_b25.ext E42)
      obtain ⟨cl53, A53, S53, Nl53, M53⟩ := id F54
      have hin53 : ¬ ((0 : Int32) < 0 ∨ cl53.slots.size ≤ ((0 : Int32)).toNatClampNeg) := AV.inb S53 Nl53 ⟨by decide, by decide⟩
      have hat53 : cl53.slots[((0 : Int32)).toNatClampNeg]? = some (.int (0 : Int32)) := AV.at S53 rfl
      obtain ⟨fs, hr, hrun, hended, hW, hsame⟩ := X42.leave (v := some (.ref b42)) (fun h => by rw [Bd.returns] at h; cases h) hlk
      refine ⟨_, _, pre39 _ ?_, hrun, hended, _, _, rfl, ?_, ⟨_, rfl⟩, hW, hsame.mono (by decide) (by decide)⟩
      · show Steps _ _ _ (T25.setTop (mkF m 144 (Lq1n1 a1 a2 p3 b2 b5 (kI 0) (kR b25) (kI p3) (kI 0)) [(.int (ut0 (p3).toNatClampNeg))])) _
        refine XS.ifYes X25.here hx rfl (pc0 := 144) (pc' := 165) rfl (hb hby d1_144) rfl ((if0 _ _).trans (teq hc40).1) (by decide) (by decide) ?_
        refine XS.iinc X25.here hx rfl (hb hby d1_165) rfl (l' := (Lq1n1 a1 a2 p3 b2 b5 (kI 0) (kR b25) (kI p3) (kI (-1)))) rfl ?_
        refine XS.goto X25.here hx rfl (pc0 := 168) (pc' := 131) rfl (hb hby d1_168) (by decide) (by decide) ?_
        show Steps _ _ _ (T25.setTop (mkF m 131 (Lq1n1 a1 a2 p3 b2 b5 (kI 0) (kR b25) (kI p3) (kI (-1))) [])) _
        refine XS.iload X25.here hx rfl (hb hby d1_131) rfl ?_
        refine XS.ifYes X25.here hx rfl (pc0 := 133) (pc' := 171) rfl (hb hby d1_133) rfl ((if0 _ _).trans (tlt (by decide : (-1 : Int32) < (0 : Int32))).1) (by decide) (by decide) ?_
        refine XS.iload X25.here hx rfl (hb hby d1_171) rfl ?_
        refine st42 _ ?_
        show Steps _ _ _ (T42.setTop (mkF m 175 (Lq1n1 a1 a2 p3 b2 b5 (kI 0) (kR b25) (kI p3) (kI (-1))) [(.ref b42)])) _
        refine XS.astore X42.here hx rfl (hb hby d1_175) rfl rfl (l' := (Lq1n1 a1 a2 p3 b2 b5 (kI 0) (kR b25) (kI p3) (kR b42))) rfl ?_
        refine XS.iconst X42.here hx rfl (hb hby d1_177) ?_
        refine XS.istore X42.here hx rfl (hb hby d1_178) rfl (l' := #[(kR a1), (kR a2), (kI p3), (kI 1), (kR b2), (kR b5), (kI 0), (kR b25), (kI p3), (kR b42), (kI 0), kU]) rfl ?_
        show Steps _ _ _ (T42.setTop (mkF m 180 #[(kR a1), (kR a2), (kI p3), (kI 1), (kR b2), (kR b5), (kI 0), (kR b25), (kI p3), (kR b42), (kI 0), kU] [])) _
        refine XS.iconst X42.here hx rfl (hb hby d1_180) ?_
        refine XS.istore X42.here hx rfl (hb hby d1_181) rfl (l' := #[(kR a1), (kR a2), (kI p3), (kI 1), (kR b2), (kR b5), (kI 0), (kR b25), (kI p3), (kR b42), (kI 0), (kI 0)]) rfl ?_
        refine XS.iload X42.here hx rfl (hb hby d1_183) rfl ?_
        show Steps _ _ _ (T42.setTop (mkF m 185 #[(kR a1), (kR a2), (kI p3), (kI 1), (kR b2), (kR b5), (kI 0), (kR b25), (kI p3), (kR b42), (kI 0), (kI 0)] [(.int (0 : Int32))])) _
        refine XS.iloadN X42.here hx rfl (hb hby d1_185) rfl ?_
        refine XS.icmpNo X42.here hx rfl (hb hby d1_186) rfl (tlt (by decide : (0 : Int32) < (1 : Int32))).2.1 ?_
        refine XS.aload X42.here hx rfl (hb hby d1_189) rfl rfl ?_
        show Steps _ _ _ (T42.setTop (mkF m 191 #[(kR a1), (kR a2), (kI p3), (kI 1), (kR b2), (kR b5), (kI 0), (kR b25), (kI p3), (kR b42), (kI 0), (kI 0)] [(.ref b25)])) _
        refine XS.iload X42.here hx rfl (hb hby d1_191) rfl ?_
        refine X42.baloadBooleans hx (j := (0 : Int32)) (v := (.int (0 : Int32))) (by rw [e42]; exact A53.1) (State.isArrayOf_alike hZ.alike A53.2.1) A53.2.2 hin53 hat53 (g := (mkF m 193 #[(kR a1), (kR a2), (kI p3), (kI 1), (kR b2), (kR b5), (kI 0), (kR b25), (kI p3), (kR b42), (kI 0), (kI 0)] [(.int (0 : Int32)), (.ref b25)])) rfl rfl (hb hby d1_193) _ ?_
        refine XS.ifYes X42.here hx rfl (pc0 := 194) (pc' := 207) rfl (hb hby d1_194) rfl ((if0 _ _).trans (teq (rfl : (0 : Int32) = (0 : Int32))).1) (by decide) (by decide) ?_
        refine XS.iinc X42.here hx rfl (hb hby d1_207) rfl (l' := #[(kR a1), (kR a2), (kI p3), (kI 1), (kR b2), (kR b5), (kI 0), (kR b25), (kI p3), (kR b42), (kI 0), (kI 1)]) rfl ?_
        show Steps _ _ _ (T42.setTop (mkF m 210 #[(kR a1), (kR a2), (kI p3), (kI 1), (kR b2), (kR b5), (kI 0), (kR b25), (kI p3), (kR b42), (kI 0), (kI 1)] [])) _
        refine XS.goto X42.here hx rfl (pc0 := 210) (pc' := 183) rfl (hb hby d1_210) (by decide) (by decide) ?_
        refine XS.iload X42.here hx rfl (hb hby d1_183) rfl ?_
        refine XS.iloadN X42.here hx rfl (hb hby d1_185) rfl ?_
        show Steps _ _ _ (T42.setTop (mkF m 186 #[(kR a1), (kR a2), (kI p3), (kI 1), (kR b2), (kR b5), (kI 0), (kR b25), (kI p3), (kR b42), (kI 0), (kI 1)] [(.int (1 : Int32)), (.int (1 : Int32))])) _
        refine XS.icmpYes X42.here hx rfl (pc0 := 186) (pc' := 213) rfl (hb hby d1_186) rfl (flt (by decide : ¬ ((1 : Int32) < (1 : Int32)))).2.1 (by decide) (by decide) ?_
        refine XS.aload X42.here hx rfl (hb hby d1_213) rfl rfl ?_
        show Steps _ _ _ (T42.setTop (mkF m 215 #[(kR a1), (kR a2), (kI p3), (kI 1), (kR b2), (kR b5), (kI 0), (kR b25), (kI p3), (kR b42), (kI 0), (kI 1)] [(.ref b42)])) _
        jvm_step X42.here [X42.here.top, hx, (hb hby d1_215), X42.method', Bd.returns, Value.isRef, FieldType.isReference]
        first | (intro acts; rw [hr _ acts rfl rfl rfl]) | rw [hr _ _ rfl rfl rfl]
        exact Steps.refl _
      · show Q1n1 Z a1 a2 p3 s0 v0 h0 n0 _ T42.heap _
        rw [e42]
        exact ⟨b42, (0 : Int32), [], rfl, N22, K42, g_b42, sz_b42, V_b42, (Or.inl ⟨rfl, rfl, own_fin hcap hs0 ⟨Int.le_refl _, hcap.1⟩ ⟨Int.le_refl _, hcap.1⟩ hv0 own_vr0 own_vr0 hI0 own_it0 own_it0 (Or.inl ⟨rfl, rfl, rfl⟩) (Or.inl ⟨rfl, rfl, rfl⟩) hT41⟩)⟩
    · have hT56 : own_tr ut0 s0 p3 true (p3 - s0) := Or.inr ⟨rfl, hc40, rfl⟩
      have hr57 : own_rg (p3 - s0) p3 := own_rm0 hcap ⟨hcap.1, Int.le_refl _⟩ hs0 hI0 hc40
      obtain ⟨cl58, A58, S58, Nl58, M58⟩ := id V_b25
      have hin58 : ¬ ((0 : Int32) < 0 ∨ cl58.slots.size ≤ ((0 : Int32)).toNatClampNeg) := AV.inb S58 Nl58 ⟨by decide, by decide⟩
      obtain ⟨T58, h58, X58, e58, W58, st58⟩ := stZ X25 hx hZ e25 A58 (j := (0 : Int32)) hin58 (g := (mkF m 152 (Lq1n1 a1 a2 p3 b2 b5 (kI 0) (kR b25) (kI p3) (kI 0)) [(.int (1 : Int32)), (.int (0 : Int32)), (.ref b25)])) rfl rfl (hb hby d1_152)
      have V58 : AV Z h58 b25 .boolean (1 : Int32) [(.int (1 : Int32))] := AV.set A58 S58 Nl58 M58 W58
      have K58 : Keep h0 h58 [] := K25.wr W58 (Or.inr sz_b25)
      have N58 := Fr.snoc X58 N22 g_b25
      have F60 := ((F28.ext E25).other W58 ne29)
      obtain ⟨cl59, A59, S59, Nl59, M59⟩ := id F60
      have hin59 : ¬ ((0 : Int32) < 0 ∨ cl59.slots.size ≤ ((0 : Int32)).toNatClampNeg) := AV.inb S59 Nl59 ⟨by decide, by decide⟩
      have hat59 : cl59.slots[((0 : Int32)).toNatClampNeg]? = some (.int s0) := AV.at S59 rfl
      obtain ⟨T61, h61, k61, X61, e61, E61, A61, st61⟩ := newP X58 hx hZ (hw _ (List.mem_of_getElem? (i := 0) rfl)) e58 (g := (mkF m 173 (Lq1n1 a1 a2 p3 b2 b5 (kI 1) (kR b25) (kI (p3 - s0)) (kI (-1))) [(.int (1 : Int32))])) rfl (hb hby d1_173) rfl (by decide) (cap := 1) (by decide) (by decide) (by decide) (by decide)
      obtain ⟨b61, g61⟩ : ∃ z, z = h58.size := ⟨_, rfl⟩
      rw [← g61] at A61 st61
      have F62 := ((F26.ext E25).wr W58)
      have ne63 : b11 ≠ b61 := Nat.ne_of_lt (Nat.lt_of_lt_of_le F62.lt (Nat.le_of_eq g61.symm))
      have ne64 : a1 ≠ b61 := Nat.ne_of_lt (Nat.lt_of_lt_of_le F60.lt (Nat.le_of_eq g61.symm))
      have F65 := ((F30.ext E25).other W58 ne31)
      have ne66 : a2 ≠ b61 := Nat.ne_of_lt (Nat.lt_of_lt_of_le F65.lt (Nat.le_of_eq g61.symm))
      have F67 := (F36.other W58 ne33)
      have ne68 : b5 ≠ b61 := Nat.ne_of_lt (Nat.lt_of_lt_of_le F67.lt (Nat.le_of_eq g61.symm))
      have F69 := ((Lf22_0.ext E25).other W58 ne34)
      have ne70 : b2 ≠ b61 := Nat.ne_of_lt (Nat.lt_of_lt_of_le F69.lt (Nat.le_of_eq g61.symm))
      have ne71 : b25 ≠ b61 := Nat.ne_of_lt (Nat.lt_of_lt_of_le V58.lt (Nat.le_of_eq g61.symm))
      have g_b61 : n0 ≤ b61 := Nat.le_trans (Nat.le_trans Z0 K58.1) (Nat.le_of_eq g61.symm)
      have sz_b61 : h0.size ≤ b61 := Nat.le_trans K58.1 (Nat.le_of_eq g61.symm)
      have K61 : Keep h0 h61 [] := K58.ext E61
      have V_b61 : AV Z h61 b61 .int (1 : Int32) [(.int (0 : Int32))] := AV.new A61 (by decide)
      have F73 := (V58.ext E61)
      obtain ⟨cl72, A72, S72, Nl72, M72⟩ := id F73
      have hin72 : ¬ ((0 : Int32) < 0 ∨ cl72.slots.size ≤ ((0 : Int32)).toNatClampNeg) := AV.inb S72 Nl72 ⟨by decide, by decide⟩
      have hat72 : cl72.slots[((0 : Int32)).toNatClampNeg]? = some (.int (1 : Int32)) := AV.at S72 rfl
      obtain ⟨cl74, A74, S74, Nl74, M74⟩ := id V_b61
      have hin74 : ¬ ((0 : Int32) < 0 ∨ cl74.slots.size ≤ ((0 : Int32)).toNatClampNeg) := AV.inb S74 Nl74 ⟨by decide, by decide⟩
      obtain ⟨T74, h74, X74, e74, W74, st74⟩ := stI X61 hx hZ e61 A74 (j := (0 : Int32)) hin74 (g := (mkF m 206 #[(kR a1), (kR a2), (kI p3), (kI 1), (kR b2), (kR b5), (kI 1), (kR b25), (kI (p3 - s0)), (kR b61), (kI 1), (kI 0)] [(.int (0 : Int32)), (.int (0 : Int32)), (.ref b61)])) rfl rfl (hb hby d1_206)
      have V74 : AV Z h74 b61 .int (1 : Int32) [(.int (0 : Int32))] := AV.set A74 S74 Nl74 M74 W74
      have K74 : Keep h0 h74 [] := K61.wr W74 (Or.inr sz_b61)
      have N74 := Fr.snoc X74 N58 g_b61
      obtain ⟨fs, hr, hrun, hended, hW, hsame⟩ := X74.leave (v := some (.ref b61)) (fun h => by rw [Bd.returns] at h; cases h) hlk
      refine ⟨_, _, pre39 _ ?_, hrun, hended, _, _, rfl, ?_, ⟨_, rfl⟩, hW, hsame.mono (by decide) (by decide)⟩
      · show Steps _ _ _ (T25.setTop (mkF m 144 (Lq1n1 a1 a2 p3 b2 b5 (kI 0) (kR b25) (kI p3) (kI 0)) [(.int (ut0 (p3).toNatClampNeg))])) _
        refine XS.ifNo X25.here hx rfl (hb hby d1_144) rfl ((if0 _ _).trans (feq hc40).1) ?_
        show Steps _ _ _ (T25.setTop (mkF m 147 (Lq1n1 a1 a2 p3 b2 b5 (kI 0) (kR b25) (kI p3) (kI 0)) [])) _
        refine XS.aload X25.here hx rfl (hb hby d1_147) rfl rfl ?_
        refine XS.iload X25.here hx rfl (hb hby d1_149) rfl ?_
        refine XS.iconst X25.here hx rfl (hb hby d1_151) ?_
        refine st58 _ ?_
        show Steps _ _ _ (T58.setTop (mkF m 153 (Lq1n1 a1 a2 p3 b2 b5 (kI 0) (kR b25) (kI p3) (kI 0)) [])) _
        refine XS.iinc X58.here hx rfl (hb hby d1_153) rfl (l' := (Lq1n1 a1 a2 p3 b2 b5 (kI 1) (kR b25) (kI p3) (kI 0))) rfl ?_
        refine XS.iload X58.here hx rfl (hb hby d1_156) rfl ?_
        refine XS.aloadN X58.here hx rfl (hb hby d1_158) rfl rfl ?_
        show Steps _ _ _ (T58.setTop (mkF m 159 (Lq1n1 a1 a2 p3 b2 b5 (kI 1) (kR b25) (kI p3) (kI 0)) [(.ref a1), (.int p3)])) _
        refine XS.iload X58.here hx rfl (hb hby d1_159) rfl ?_
        refine X58.iaload hx (j := (0 : Int32)) (v := (.int s0)) (by rw [e58]; exact A59.1) (State.isArrayOf_alike hZ.alike A59.2.1) A59.2.2 hin59 hat59 (g := (mkF m 161 (Lq1n1 a1 a2 p3 b2 b5 (kI 1) (kR b25) (kI p3) (kI 0)) [(.int (0 : Int32)), (.ref a1), (.int p3)])) rfl rfl (hb hby d1_161) _ ?_
        refine XS.isub X58.here hx rfl (hb hby d1_162) rfl ?_
        refine XS.istore X58.here hx rfl (hb hby d1_163) rfl (l' := (Lq1n1 a1 a2 p3 b2 b5 (kI 1) (kR b25) (kI (p3 - s0)) (kI 0))) rfl ?_
        show Steps _ _ _ (T58.setTop (mkF m 165 (Lq1n1 a1 a2 p3 b2 b5 (kI 1) (kR b25) (kI (p3 - s0)) (kI 0)) [])) _
        refine XS.iinc X58.here hx rfl (hb hby d1_165) rfl (l' := (Lq1n1 a1 a2 p3 b2 b5 (kI 1) (kR b25) (kI (p3 - s0)) (kI (-1)))) rfl ?_
        refine XS.goto X58.here hx rfl (pc0 := 168) (pc' := 131) rfl (hb hby d1_168) (by decide) (by decide) ?_
        refine XS.iload X58.here hx rfl (hb hby d1_131) rfl ?_
        show Steps _ _ _ (T58.setTop (mkF m 133 (Lq1n1 a1 a2 p3 b2 b5 (kI 1) (kR b25) (kI (p3 - s0)) (kI (-1))) [(.int (-1 : Int32))])) _
        refine XS.ifYes X58.here hx rfl (pc0 := 133) (pc' := 171) rfl (hb hby d1_133) rfl ((if0 _ _).trans (tlt (by decide : (-1 : Int32) < (0 : Int32))).1) (by decide) (by decide) ?_
        refine XS.iload X58.here hx rfl (hb hby d1_171) rfl ?_
        refine st61 _ ?_
        refine XS.astore X61.here hx rfl (hb hby d1_175) rfl rfl (l' := (Lq1n1 a1 a2 p3 b2 b5 (kI 1) (kR b25) (kI (p3 - s0)) (kR b61))) rfl ?_
        show Steps _ _ _ (T61.setTop (mkF m 177 (Lq1n1 a1 a2 p3 b2 b5 (kI 1) (kR b25) (kI (p3 - s0)) (kR b61)) [])) _
        refine XS.iconst X61.here hx rfl (hb hby d1_177) ?_
        refine XS.istore X61.here hx rfl (hb hby d1_178) rfl (l' := #[(kR a1), (kR a2), (kI p3), (kI 1), (kR b2), (kR b5), (kI 1), (kR b25), (kI (p3 - s0)), (kR b61), (kI 0), kU]) rfl ?_
        refine XS.iconst X61.here hx rfl (hb hby d1_180) ?_
        show Steps _ _ _ (T61.setTop (mkF m 181 #[(kR a1), (kR a2), (kI p3), (kI 1), (kR b2), (kR b5), (kI 1), (kR b25), (kI (p3 - s0)), (kR b61), (kI 0), kU] [(.int (0 : Int32))])) _
        refine XS.istore X61.here hx rfl (hb hby d1_181) rfl (l' := #[(kR a1), (kR a2), (kI p3), (kI 1), (kR b2), (kR b5), (kI 1), (kR b25), (kI (p3 - s0)), (kR b61), (kI 0), (kI 0)]) rfl ?_
        refine XS.iload X61.here hx rfl (hb hby d1_183) rfl ?_
        refine XS.iloadN X61.here hx rfl (hb hby d1_185) rfl ?_
        show Steps _ _ _ (T61.setTop (mkF m 186 #[(kR a1), (kR a2), (kI p3), (kI 1), (kR b2), (kR b5), (kI 1), (kR b25), (kI (p3 - s0)), (kR b61), (kI 0), (kI 0)] [(.int (1 : Int32)), (.int (0 : Int32))])) _
        refine XS.icmpNo X61.here hx rfl (hb hby d1_186) rfl (tlt (by decide : (0 : Int32) < (1 : Int32))).2.1 ?_
        refine XS.aload X61.here hx rfl (hb hby d1_189) rfl rfl ?_
        refine XS.iload X61.here hx rfl (hb hby d1_191) rfl ?_
        refine X61.baloadBooleans hx (j := (0 : Int32)) (v := (.int (1 : Int32))) (by rw [e61]; exact A72.1) (State.isArrayOf_alike hZ.alike A72.2.1) A72.2.2 hin72 hat72 (g := (mkF m 193 #[(kR a1), (kR a2), (kI p3), (kI 1), (kR b2), (kR b5), (kI 1), (kR b25), (kI (p3 - s0)), (kR b61), (kI 0), (kI 0)] [(.int (0 : Int32)), (.ref b25)])) rfl rfl (hb hby d1_193) _ ?_
        show Steps _ _ _ (T61.setTop (mkF m 194 #[(kR a1), (kR a2), (kI p3), (kI 1), (kR b2), (kR b5), (kI 1), (kR b25), (kI (p3 - s0)), (kR b61), (kI 0), (kI 0)] [(.int (1 : Int32))])) _
        refine XS.ifNo X61.here hx rfl (hb hby d1_194) rfl ((if0 _ _).trans (feq (by decide : ¬ ((1 : Int32) = (0 : Int32)))).1) ?_
        refine XS.aload X61.here hx rfl (hb hby d1_197) rfl rfl ?_
        refine XS.iload X61.here hx rfl (hb hby d1_199) rfl ?_
        show Steps _ _ _ (T61.setTop (mkF m 201 #[(kR a1), (kR a2), (kI p3), (kI 1), (kR b2), (kR b5), (kI 1), (kR b25), (kI (p3 - s0)), (kR b61), (kI 0), (kI 0)] [(.int (0 : Int32)), (.ref b61)])) _
        refine XS.iinc X61.here hx rfl (hb hby d1_201) rfl (l' := #[(kR a1), (kR a2), (kI p3), (kI 1), (kR b2), (kR b5), (kI 1), (kR b25), (kI (p3 - s0)), (kR b61), (kI 1), (kI 0)]) rfl ?_
        refine XS.iload X61.here hx rfl (hb hby d1_204) rfl ?_
        refine st74 _ ?_
        refine XS.iinc X74.here hx rfl (hb hby d1_207) rfl (l' := #[(kR a1), (kR a2), (kI p3), (kI 1), (kR b2), (kR b5), (kI 1), (kR b25), (kI (p3 - s0)), (kR b61), (kI 1), (kI 1)]) rfl ?_
        show Steps _ _ _ (T74.setTop (mkF m 210 #[(kR a1), (kR a2), (kI p3), (kI 1), (kR b2), (kR b5), (kI 1), (kR b25), (kI (p3 - s0)), (kR b61), (kI 1), (kI 1)] [])) _
        refine XS.goto X74.here hx rfl (pc0 := 210) (pc' := 183) rfl (hb hby d1_210) (by decide) (by decide) ?_
        refine XS.iload X74.here hx rfl (hb hby d1_183) rfl ?_
        refine XS.iloadN X74.here hx rfl (hb hby d1_185) rfl ?_
        show Steps _ _ _ (T74.setTop (mkF m 186 #[(kR a1), (kR a2), (kI p3), (kI 1), (kR b2), (kR b5), (kI 1), (kR b25), (kI (p3 - s0)), (kR b61), (kI 1), (kI 1)] [(.int (1 : Int32)), (.int (1 : Int32))])) _
        refine XS.icmpYes X74.here hx rfl (pc0 := 186) (pc' := 213) rfl (hb hby d1_186) rfl (flt (by decide : ¬ ((1 : Int32) < (1 : Int32)))).2.1 (by decide) (by decide) ?_
        refine XS.aload X74.here hx rfl (hb hby d1_213) rfl rfl ?_
        show Steps _ _ _ (T74.setTop (mkF m 215 #[(kR a1), (kR a2), (kI p3), (kI 1), (kR b2), (kR b5), (kI 1), (kR b25), (kI (p3 - s0)), (kR b61), (kI 1), (kI 1)] [(.ref b61)])) _
        jvm_step X74.here [X74.here.top, hx, (hb hby d1_215), X74.method', Bd.returns, Value.isRef, FieldType.isReference]
        first | (intro acts; rw [hr _ acts rfl rfl rfl]) | rw [hr _ _ rfl rfl rfl]
        exact Steps.refl _
      · show Q1n1 Z a1 a2 p3 s0 v0 h0 n0 _ T74.heap _
        rw [e74]
        exact ⟨b61, (1 : Int32), [.int (0 : Int32)], rfl, N74, K74, g_b61, sz_b61, V74, (Or.inr ⟨rfl, rfl, own_fin hcap hs0 ⟨Int.le_refl _, hcap.1⟩ ⟨Int.le_refl _, hcap.1⟩ hv0 own_vr0 own_vr0 hI0 own_it0 own_it0 (Or.inl ⟨rfl, rfl, rfl⟩) (Or.inl ⟨rfl, rfl, rfl⟩) hT56⟩)⟩
  · intro jn22
    have F77 := ((F14.ext E11).other W19 ne9)
    obtain ⟨cl76, A76, S76, Nl76, M76⟩ := id F77
    have hin76 : ¬ ((0 : Int32) < 0 ∨ cl76.slots.size ≤ ((0 : Int32)).toNatClampNeg) := AV.inb S76 Nl76 ⟨by decide, by decide⟩
    have hat76 : cl76.slots[((0 : Int32)).toNatClampNeg]? = some (.long v0) := AV.at S76 rfl
    have pre78 : ∀ t, Steps p.tables e below (T19.setTop (mkF m 41 (Lq1n1 a1 a2 p3 b2 b5 (kI 0) kU kU kU) [(.int (lcmpW v0 (0 : Int64)))])) t → Steps p.tables e below (s₁.setTop (entryFrame m #[(.ref a1), (.ref a2), (.int p3)] 12)) t := fun t k => pre23 t (by
      show Steps _ _ _ (T19.setTop (mkF m 35 (Lq1n1 a1 a2 p3 b2 b5 (kI 0) kU kU kU) [])) _
      refine XS.aloadN X19.here hx rfl (hb hby d1_35) rfl rfl ?_
      show Steps _ _ _ (T19.setTop (mkF m 36 (Lq1n1 a1 a2 p3 b2 b5 (kI 0) kU kU kU) [(.ref a2)])) _
      refine XS.iload X19.here hx rfl (hb hby d1_36) rfl ?_
      refine X19.laload hx (j := (0 : Int32)) (v := (.long v0)) (by rw [e19]; exact A76.1) (State.isArrayOf_alike hZ.alike A76.2.1) A76.2.2 hin76 hat76 (g := (mkF m 38 (Lq1n1 a1 a2 p3 b2 b5 (kI 0) kU kU kU) [(.int (0 : Int32)), (.ref a2)])) rfl rfl (hb hby d1_38) _ ?_
      refine XS.lconst X19.here hx rfl (hb hby d1_39) ?_
      refine XS.lcmp X19.here hx rfl (hb hby d1_40) rfl ?_
      exact k)
    by_cases hc79 : (0 : Int32) < (lcmpW v0 (0 : Int64))
    · have pre80 : ∀ t, Steps p.tables e below (T19.setTop (mkF m 50 (Lq1n1 a1 a2 p3 b2 b5 (kI 0) (kI p3) kU kU) [])) t → Steps p.tables e below (s₁.setTop (entryFrame m #[(.ref a1), (.ref a2), (.int p3)] 12)) t := fun t k => pre78 t (by
        show Steps _ _ _ (T19.setTop (mkF m 41 (Lq1n1 a1 a2 p3 b2 b5 (kI 0) kU kU kU) [(.int (lcmpW v0 (0 : Int64)))])) _
        refine XS.ifYes X19.here hx rfl (pc0 := 41) (pc' := 47) rfl (hb hby d1_41) rfl ((if0 _ _).trans (tlt hc79).2.2.1) (by decide) (by decide) ?_
        refine XS.iloadN X19.here hx rfl (hb hby d1_47) rfl ?_
        refine XS.istore X19.here hx rfl (hb hby d1_48) rfl (l' := (Lq1n1 a1 a2 p3 b2 b5 (kI 0) (kI p3) kU kU)) rfl ?_
        exact k)
      have F82 := ((F16.ext E11).other W19 ne10)
      have F83 := (V_b11.other W19 (Ne.symm ne18))
      refine own_loop (α := State × (List Loc) × Heap × Int32 × Slot × Slot × (Nat → Int64) × (Nat → Int32)) (fun a => match a with | (T81, locs81, h81, wc0, wx0, wy0, wb0, wt0) => wc0.toInt ≤ p3.toInt ∧ own_lp p3 (fun _ => 0) v0 s0 wc0 wb0 wt0 ∧ own_sl2 wx0 wy0 ∧ Stand p l e ({ frames := 0, cells := 5, slots := 35, locals := 0 } : Room) s m #[(.ref a1), (.ref a2), (.int p3)] below meth c T81 locs81 3 33 ∧ T81.heap = h81 ∧ Fr n0 locs81 ∧ Keep h19 h81 [b2, b11] ∧ AJ Z h81 b2 .long (p3 + (1 : Int32)) wb0 ∧ AI Z h81 b11 .boolean (p3 + (1 : Int32)) wt0 ∧ (∀ t, Steps p.tables e below (T81.setTop (mkF m 50 (Lq1n1 a1 a2 p3 b2 b5 (kI 0) (kI wc0) wx0 wy0) [])) t → Steps p.tables e below (s₁.setTop (entryFrame m #[(.ref a1), (.ref a2), (.int p3)] 12)) t)) (fun a => match a with | (T81, locs81, h81, wc0, wx0, wy0, wb0, wt0) => (wc0.toInt + 1).toNat) ?_ (T19, _, _, p3, .unset, .unset, (fun _ => 0), (fun _ => 0)) ⟨(Int.le_refl _), (own_lp0 _ _ _ _ hcap), (Or.inl ⟨rfl, rfl⟩), X19, e19, N19, Keep.refl _ _, F82, F83, pre80⟩
      rintro ⟨T81, locs81, h81, wc0, wx0, wy0, wb0, wt0⟩ ⟨hc1_0, hL0, hsl_wx0, X81, e81, N81, Kl81, Lf81_0, Lf81_1, pre81⟩ ih81
      have K84 : Keep h0 h81 [] := K19.trans Kl81 (allS (Or.inr sz_b2) (allS (Or.inr sz_b11) all0))
      have F86 := (((F12.ext E11).other W19 ne7).keep Kl81 (ninS ne3 (ninS ne13 nin0)))
      obtain ⟨cl85, A85, S85, Nl85, M85⟩ := id F86
      have hin85 : ¬ ((0 : Int32) < 0 ∨ cl85.slots.size ≤ ((0 : Int32)).toNatClampNeg) := AV.inb S85 Nl85 ⟨by decide, by decide⟩
      have hat85 : cl85.slots[((0 : Int32)).toNatClampNeg]? = some (.int s0) := AV.at S85 rfl
      have pre87 : ∀ t, Steps p.tables e below (T81.setTop (mkF m 56 (Lq1n1 a1 a2 p3 b2 b5 (kI 0) (kI wc0) wx0 wy0) [(.int s0), (.int wc0)])) t → Steps p.tables e below (s₁.setTop (entryFrame m #[(.ref a1), (.ref a2), (.int p3)] 12)) t := fun t k => pre81 t (by
        show Steps _ _ _ (T81.setTop (mkF m 50 (Lq1n1 a1 a2 p3 b2 b5 (kI 0) (kI wc0) wx0 wy0) [])) _
        refine XS.iload X81.here hx rfl (hb hby d1_50) rfl ?_
        refine XS.aloadN X81.here hx rfl (hb hby d1_52) rfl rfl ?_
        refine XS.iload X81.here hx rfl (hb hby d1_53) rfl ?_
        refine X81.iaload hx (j := (0 : Int32)) (v := (.int s0)) (by rw [e81]; exact A85.1) (State.isArrayOf_alike hZ.alike A85.2.1) A85.2.2 hin85 hat85 (g := (mkF m 55 (Lq1n1 a1 a2 p3 b2 b5 (kI 0) (kI wc0) wx0 wy0) [(.int (0 : Int32)), (.ref a1), (.int wc0)])) rfl rfl (hb hby d1_55) _ ?_
        exact k)
      by_cases hc88 : wc0 < s0
      · have pre89 : ∀ t, Steps p.tables e below (T81.setTop (mkF m 109 (Lq1n1 a1 a2 p3 b2 b5 (kI 0) (kI wc0) wx0 wy0) [])) t → Steps p.tables e below (s₁.setTop (entryFrame m #[(.ref a1), (.ref a2), (.int p3)] 12)) t := fun t k => pre87 t (by
          show Steps _ _ _ (T81.setTop (mkF m 56 (Lq1n1 a1 a2 p3 b2 b5 (kI 0) (kI wc0) wx0 wy0) [(.int s0), (.int wc0)])) _
          refine XS.icmpYes X81.here hx rfl (pc0 := 56) (pc' := 109) rfl (hb hby d1_56) rfl (tlt hc88).1 (by decide) (by decide) ?_
          exact k)
        exact jn22 (T81, _, _, .val (.int wc0), wx0, wy0, wb0, wt0) ⟨(own_lpE hs0 hL0 hc88), (Or.inr (Or.inl ⟨_, rfl⟩)), hsl_wx0, X81, e81, N81, (((Keep.refl _ _).trans Kl81 (allS (Or.inl (List.mem_of_getElem? (i := 0) rfl)) (allS (Or.inl (List.mem_of_getElem? (i := 1) rfl)) all0)))), Lf81_0, Lf81_1, fun t k => pre89 t k⟩
      · obtain ⟨cl90, A90, S90, Nl90, M90⟩ := id F86
        have hin90 : ¬ ((0 : Int32) < 0 ∨ cl90.slots.size ≤ ((0 : Int32)).toNatClampNeg) := AV.inb S90 Nl90 ⟨by decide, by decide⟩
        have hat90 : cl90.slots[((0 : Int32)).toNatClampNeg]? = some (.int s0) := AV.at S90 rfl
        obtain ⟨cl91, A91, S91, M91, G91⟩ := id Lf81_0
        have hin91 : ¬ ((wc0 - s0) < 0 ∨ cl91.slots.size ≤ ((wc0 - s0)).toNatClampNeg) := inb_of S91 (own_ixr hcap (own_rgs hcap hs0 hc1_0 hc88))
        have hat91 : cl91.slots[((wc0 - s0)).toNatClampNeg]? = some (.long (wb0 ((wc0 - s0)).toNatClampNeg)) := AJ.at S91 G91 hin91
        have F93 := (F77.keep Kl81 (ninS ne4 (ninS ne15 nin0)))
        obtain ⟨cl92, A92, S92, Nl92, M92⟩ := id F93
        have hin92 : ¬ ((0 : Int32) < 0 ∨ cl92.slots.size ≤ ((0 : Int32)).toNatClampNeg) := AV.inb S92 Nl92 ⟨by decide, by decide⟩
        have hat92 : cl92.slots[((0 : Int32)).toNatClampNeg]? = some (.long v0) := AV.at S92 rfl
        obtain ⟨cl94, A94, S94, M94, G94⟩ := id Lf81_0
        have hin94 : ¬ (wc0 < 0 ∨ cl94.slots.size ≤ (wc0).toNatClampNeg) := inb_of S94 (own_ixr hcap (own_rgc hs0 hc1_0 hc88))
        have hat94 : cl94.slots[(wc0).toNatClampNeg]? = some (.long (wb0 (wc0).toNatClampNeg)) := AJ.at S94 G94 hin94
        have pre95 : ∀ t, Steps p.tables e below (T81.setTop (mkF m 84 (Lq1n1 a1 a2 p3 b2 b5 (kI 0) (kI wc0) (kJ ((wb0 ((wc0 - s0)).toNatClampNeg) + v0)) kD) [(.int (lcmpW ((wb0 ((wc0 - s0)).toNatClampNeg) + v0) (wb0 (wc0).toNatClampNeg)))])) t → Steps p.tables e below (s₁.setTop (entryFrame m #[(.ref a1), (.ref a2), (.int p3)] 12)) t := fun t k => pre87 t (by
          show Steps _ _ _ (T81.setTop (mkF m 56 (Lq1n1 a1 a2 p3 b2 b5 (kI 0) (kI wc0) wx0 wy0) [(.int s0), (.int wc0)])) _
          refine XS.icmpNo X81.here hx rfl (hb hby d1_56) rfl (flt hc88).1 ?_
          refine XS.aload X81.here hx rfl (hb hby d1_59) rfl rfl ?_
          show Steps _ _ _ (T81.setTop (mkF m 61 (Lq1n1 a1 a2 p3 b2 b5 (kI 0) (kI wc0) wx0 wy0) [(.ref b2)])) _
          refine XS.iload X81.here hx rfl (hb hby d1_61) rfl ?_
          refine XS.aloadN X81.here hx rfl (hb hby d1_63) rfl rfl ?_
          refine XS.iload X81.here hx rfl (hb hby d1_64) rfl ?_
          refine X81.iaload hx (j := (0 : Int32)) (v := (.int s0)) (by rw [e81]; exact A90.1) (State.isArrayOf_alike hZ.alike A90.2.1) A90.2.2 hin90 hat90 (g := (mkF m 66 (Lq1n1 a1 a2 p3 b2 b5 (kI 0) (kI wc0) wx0 wy0) [(.int (0 : Int32)), (.ref a1), (.int wc0), (.ref b2)])) rfl rfl (hb hby d1_66) _ ?_
          show Steps _ _ _ (T81.setTop (mkF m 67 (Lq1n1 a1 a2 p3 b2 b5 (kI 0) (kI wc0) wx0 wy0) [(.int s0), (.int wc0), (.ref b2)])) _
          refine XS.isub X81.here hx rfl (hb hby d1_67) rfl ?_
          refine X81.laload hx (j := (wc0 - s0)) (v := (.long (wb0 ((wc0 - s0)).toNatClampNeg))) (by rw [e81]; exact A91.1) (State.isArrayOf_alike hZ.alike A91.2.1) A91.2.2 hin91 hat91 (g := (mkF m 68 (Lq1n1 a1 a2 p3 b2 b5 (kI 0) (kI wc0) wx0 wy0) [(.int (wc0 - s0)), (.ref b2)])) rfl rfl (hb hby d1_68) _ ?_
          refine XS.aloadN X81.here hx rfl (hb hby d1_69) rfl rfl ?_
          refine XS.iload X81.here hx rfl (hb hby d1_70) rfl ?_
          refine X81.laload hx (j := (0 : Int32)) (v := (.long v0)) (by rw [e81]; exact A92.1) (State.isArrayOf_alike hZ.alike A92.2.1) A92.2.2 hin92 hat92 (g := (mkF m 72 (Lq1n1 a1 a2 p3 b2 b5 (kI 0) (kI wc0) wx0 wy0) [(.int (0 : Int32)), (.ref a2), (.long (wb0 ((wc0 - s0)).toNatClampNeg))])) rfl rfl (hb hby d1_72) _ ?_
          show Steps _ _ _ (T81.setTop (mkF m 73 (Lq1n1 a1 a2 p3 b2 b5 (kI 0) (kI wc0) wx0 wy0) [(.long v0), (.long (wb0 ((wc0 - s0)).toNatClampNeg))])) _
          refine XS.ladd X81.here hx rfl (hb hby d1_73) rfl ?_
          refine XS.lstore X81.here hx rfl (hb hby d1_74) rfl (l' := (Lq1n1 a1 a2 p3 b2 b5 (kI 0) (kI wc0) (kJ ((wb0 ((wc0 - s0)).toNatClampNeg) + v0)) kD)) (by rcases hsl_wx0 with ⟨rfl, rfl⟩ | ⟨_, rfl, rfl⟩ <;> rfl) ?_
          refine XS.lload X81.here hx rfl (hb hby d1_76) rfl ?_
          show Steps _ _ _ (T81.setTop (mkF m 78 (Lq1n1 a1 a2 p3 b2 b5 (kI 0) (kI wc0) (kJ ((wb0 ((wc0 - s0)).toNatClampNeg) + v0)) kD) [(.long ((wb0 ((wc0 - s0)).toNatClampNeg) + v0))])) _
          refine XS.aload X81.here hx rfl (hb hby d1_78) rfl rfl ?_
          refine XS.iload X81.here hx rfl (hb hby d1_80) rfl ?_
          refine X81.laload hx (j := wc0) (v := (.long (wb0 (wc0).toNatClampNeg))) (by rw [e81]; exact A94.1) (State.isArrayOf_alike hZ.alike A94.2.1) A94.2.2 hin94 hat94 (g := (mkF m 82 (Lq1n1 a1 a2 p3 b2 b5 (kI 0) (kI wc0) (kJ ((wb0 ((wc0 - s0)).toNatClampNeg) + v0)) kD) [(.int wc0), (.ref b2), (.long ((wb0 ((wc0 - s0)).toNatClampNeg) + v0))])) rfl rfl (hb hby d1_82) _ ?_
          refine XS.lcmp X81.here hx rfl (hb hby d1_83) rfl ?_
          exact k)
        by_cases hc96 : (0 : Int32) < (lcmpW ((wb0 ((wc0 - s0)).toNatClampNeg) + v0) (wb0 (wc0).toNatClampNeg))
        · obtain ⟨cl97, A97, S97, M97, G97⟩ := id Lf81_0
          have hin97 : ¬ (wc0 < 0 ∨ cl97.slots.size ≤ (wc0).toNatClampNeg) := inb_of S97 (own_ixr hcap (own_rgc hs0 hc1_0 hc88))
          obtain ⟨T97, h97, X97, e97, W97, st97⟩ := stJ X81 hx hZ e81 A97 (j := wc0) hin97 (g := (mkF m 93 (Lq1n1 a1 a2 p3 b2 b5 (kI 0) (kI wc0) (kJ ((wb0 ((wc0 - s0)).toNatClampNeg) + v0)) kD) [(.long ((wb0 ((wc0 - s0)).toNatClampNeg) + v0)), (.int wc0), (.ref b2)])) rfl rfl (hb hby d1_93)
          have V97 : AJ Z h97 b2 .long (p3 + (1 : Int32)) (fun i => if i = (wc0).toNatClampNeg then ((wb0 ((wc0 - s0)).toNatClampNeg) + v0) else wb0 i) := AJ.set A97 S97 M97 G97 W97
          have K97 : Keep h0 h97 [] := K84.wr W97 (Or.inr sz_b2)
          have N97 := Fr.snoc X97 N81 g_b2
          have F99 := ((V19.keep Kl81 (ninS (Ne.symm ne10) (ninS ne18 nin0))).other W97 (Ne.symm ne10))
          obtain ⟨cl98, A98, S98, Nl98, M98⟩ := id F99
          have hin98 : ¬ ((0 : Int32) < 0 ∨ cl98.slots.size ≤ ((0 : Int32)).toNatClampNeg) := AV.inb S98 Nl98 ⟨by decide, by decide⟩
          have hat98 : cl98.slots[((0 : Int32)).toNatClampNeg]? = some (.ref b11) := AV.at S98 rfl
          have F101 := (Lf81_1.other W97 (Ne.symm ne17))
          obtain ⟨cl100, A100, S100, M100, G100⟩ := id F101
          have hin100 : ¬ (wc0 < 0 ∨ cl100.slots.size ≤ (wc0).toNatClampNeg) := inb_of S100 (own_ixr hcap (own_rgc hs0 hc1_0 hc88))
          obtain ⟨T100, h100, X100, e100, W100, st100⟩ := stZ X97 hx hZ e97 A100 (j := wc0) hin100 (g := (mkF m 102 (Lq1n1 a1 a2 p3 b2 b5 (kI 0) (kI wc0) (kJ ((wb0 ((wc0 - s0)).toNatClampNeg) + v0)) kD) [(.int (1 : Int32)), (.int wc0), (.ref b11)])) rfl rfl (hb hby d1_102)
          have V100 : AI Z h100 b11 .boolean (p3 + (1 : Int32)) (fun i => if i = (wc0).toNatClampNeg then (1 : Int32) else wt0 i) := AI.set A100 S100 M100 G100 W100
          have K100 : Keep h0 h100 [] := K97.wr W100 (Or.inr sz_b11)
          have N100 := Fr.snoc X100 N97 g_b11
          have pre102 : ∀ t, Steps p.tables e below (T100.setTop (mkF m 50 (Lq1n1 a1 a2 p3 b2 b5 (kI 0) (kI (wc0 + (-1 : Int32))) (kJ ((wb0 ((wc0 - s0)).toNatClampNeg) + v0)) kD) [])) t → Steps p.tables e below (s₁.setTop (entryFrame m #[(.ref a1), (.ref a2), (.int p3)] 12)) t := fun t k => pre95 t (by
            show Steps _ _ _ (T81.setTop (mkF m 84 (Lq1n1 a1 a2 p3 b2 b5 (kI 0) (kI wc0) (kJ ((wb0 ((wc0 - s0)).toNatClampNeg) + v0)) kD) [(.int (lcmpW ((wb0 ((wc0 - s0)).toNatClampNeg) + v0) (wb0 (wc0).toNatClampNeg)))])) _
            refine XS.ifNo X81.here hx rfl (hb hby d1_84) rfl ((if0 _ _).trans (tlt hc96).2.2.2) ?_
            refine XS.aload X81.here hx rfl (hb hby d1_87) rfl rfl ?_
            refine XS.iload X81.here hx rfl (hb hby d1_89) rfl ?_
            show Steps _ _ _ (T81.setTop (mkF m 91 (Lq1n1 a1 a2 p3 b2 b5 (kI 0) (kI wc0) (kJ ((wb0 ((wc0 - s0)).toNatClampNeg) + v0)) kD) [(.int wc0), (.ref b2)])) _
            refine XS.lload X81.here hx rfl (hb hby d1_91) rfl ?_
            refine st97 _ ?_
            refine XS.aload X97.here hx rfl (hb hby d1_94) rfl rfl ?_
            refine XS.iload X97.here hx rfl (hb hby d1_96) rfl ?_
            refine X97.aaload hx (j := (0 : Int32)) (v := (.ref b11)) (by rw [e97]; exact A98.1) (State.isArrayOf_alike hZ.alike A98.2.1) rfl A98.2.2 hin98 hat98 (g := (mkF m 98 (Lq1n1 a1 a2 p3 b2 b5 (kI 0) (kI wc0) (kJ ((wb0 ((wc0 - s0)).toNatClampNeg) + v0)) kD) [(.int (0 : Int32)), (.ref b5)])) rfl rfl (hb hby d1_98) _ ?_
            show Steps _ _ _ (T97.setTop (mkF m 99 (Lq1n1 a1 a2 p3 b2 b5 (kI 0) (kI wc0) (kJ ((wb0 ((wc0 - s0)).toNatClampNeg) + v0)) kD) [(.ref b11)])) _
            refine XS.iload X97.here hx rfl (hb hby d1_99) rfl ?_
            refine XS.iconst X97.here hx rfl (hb hby d1_101) ?_
            refine st100 _ ?_
            refine XS.iinc X100.here hx rfl (hb hby d1_103) rfl (l' := (Lq1n1 a1 a2 p3 b2 b5 (kI 0) (kI (wc0 + (-1 : Int32))) (kJ ((wb0 ((wc0 - s0)).toNatClampNeg) + v0)) kD)) rfl ?_
            show Steps _ _ _ (T100.setTop (mkF m 106 (Lq1n1 a1 a2 p3 b2 b5 (kI 0) (kI (wc0 + (-1 : Int32))) (kJ ((wb0 ((wc0 - s0)).toNatClampNeg) + v0)) kD) [])) _
            refine XS.goto X100.here hx rfl (pc0 := 106) (pc' := 50) rfl (hb hby d1_106) (by decide) (by decide) ?_
            exact k)
          have F103 := (V97.other W100 ne17)
          exact ih81 (T100, _, _, (wc0 + (-1 : Int32)), .val (.long ((wb0 ((wc0 - s0)).toNatClampNeg) + v0)), .second, (fun i => if i = (wc0).toNatClampNeg then ((wb0 ((wc0 - s0)).toNatClampNeg) + v0) else wb0 i), (fun i => if i = (wc0).toNatClampNeg then (1 : Int32) else wt0 i)) ⟨(own_mle hcap hs0 hc1_0 hc88), (own_stY hcap hs0 hc1_0 hc88 (own_gt.mp hc79) hL0 (own_gt.mp hc96)), (Or.inr ⟨_, rfl, rfl⟩), X100, e100, N100, (((Kl81.wr W97 (Or.inl (List.mem_of_getElem? (i := 0) rfl))).wr W100 (Or.inl (List.mem_of_getElem? (i := 1) rfl)))), F103, V100, fun t k => pre102 t k⟩ (own_mlt hcap hs0 hc1_0 hc88)
        · have pre104 : ∀ t, Steps p.tables e below (T81.setTop (mkF m 50 (Lq1n1 a1 a2 p3 b2 b5 (kI 0) (kI (wc0 + (-1 : Int32))) (kJ ((wb0 ((wc0 - s0)).toNatClampNeg) + v0)) kD) [])) t → Steps p.tables e below (s₁.setTop (entryFrame m #[(.ref a1), (.ref a2), (.int p3)] 12)) t := fun t k => pre95 t (by
            show Steps _ _ _ (T81.setTop (mkF m 84 (Lq1n1 a1 a2 p3 b2 b5 (kI 0) (kI wc0) (kJ ((wb0 ((wc0 - s0)).toNatClampNeg) + v0)) kD) [(.int (lcmpW ((wb0 ((wc0 - s0)).toNatClampNeg) + v0) (wb0 (wc0).toNatClampNeg)))])) _
            refine XS.ifYes X81.here hx rfl (pc0 := 84) (pc' := 103) rfl (hb hby d1_84) rfl ((if0 _ _).trans (flt hc96).2.2.2) (by decide) (by decide) ?_
            refine XS.iinc X81.here hx rfl (hb hby d1_103) rfl (l' := (Lq1n1 a1 a2 p3 b2 b5 (kI 0) (kI (wc0 + (-1 : Int32))) (kJ ((wb0 ((wc0 - s0)).toNatClampNeg) + v0)) kD)) rfl ?_
            show Steps _ _ _ (T81.setTop (mkF m 106 (Lq1n1 a1 a2 p3 b2 b5 (kI 0) (kI (wc0 + (-1 : Int32))) (kJ ((wb0 ((wc0 - s0)).toNatClampNeg) + v0)) kD) [])) _
            refine XS.goto X81.here hx rfl (pc0 := 106) (pc' := 50) rfl (hb hby d1_106) (by decide) (by decide) ?_
            exact k)
          exact ih81 (T81, _, _, (wc0 + (-1 : Int32)), .val (.long ((wb0 ((wc0 - s0)).toNatClampNeg) + v0)), .second, wb0, wt0) ⟨(own_mle hcap hs0 hc1_0 hc88), (own_stN hcap hs0 hc1_0 hc88 hL0 (fun q => hc96 (own_gt.mpr q))), (Or.inr ⟨_, rfl, rfl⟩), X81, e81, N81, (Kl81), Lf81_0, Lf81_1, fun t k => pre104 t k⟩ (own_mlt hcap hs0 hc1_0 hc88)
    · have pre105 : ∀ t, Steps p.tables e below (T19.setTop (mkF m 109 (Lq1n1 a1 a2 p3 b2 b5 (kI 0) kU kU kU) [])) t → Steps p.tables e below (s₁.setTop (entryFrame m #[(.ref a1), (.ref a2), (.int p3)] 12)) t := fun t k => pre78 t (by
        show Steps _ _ _ (T19.setTop (mkF m 41 (Lq1n1 a1 a2 p3 b2 b5 (kI 0) kU kU kU) [(.int (lcmpW v0 (0 : Int64)))])) _
        refine XS.ifNo X19.here hx rfl (hb hby d1_41) rfl ((if0 _ _).trans (flt hc79).2.2.1) ?_
        refine XS.goto X19.here hx rfl (pc0 := 44) (pc' := 109) rfl (hb hby d1_44) (by decide) (by decide) ?_
        exact k)
      have F106 := ((F16.ext E11).other W19 ne10)
      have F107 := (V_b11.other W19 (Ne.symm ne18))
      exact jn22 (T19, _, _, .unset, .unset, .unset, (fun _ => 0), (fun _ => 0)) ⟨(own_itn (fun q => hc79 (own_gt.mpr q))), (Or.inl rfl), (Or.inl ⟨rfl, rfl⟩), X19, e19, N19, ((Keep.refl _ _)), F106, F107, fun t k => pre105 t k⟩
abbrev Lq1n2 (a1 : Addr) (a2 : Addr) (p3 : Int32) (b2 : Addr) (b5 : Addr) (x6 : Slot) (x7 : Slot) (x8 : Slot) (x9 : Slot) : Array Slot := #[.val (.ref a1), .val (.ref a2), .val (.int p3), .val (.int (2 : Int32)), .val (.ref b2), .val (.ref b5), x6, x7, x8, x9, .unset, .unset]
theorem ef_1n2 (m : MethodId) (x0 : Addr) (x1 : Addr) (x2 : Int32) : entryFrame m #[(.ref x0), (.ref x1), (.int x2)] 12 = mkF m 0 #[.val (.ref x0), .val (.ref x1), .val (.int x2), .unset, .unset, .unset, .unset, .unset, .unset, .unset, .unset, .unset] [] := by first | (simp [entryFrame, mkF, argsToLocals, Value.category]; done) | rfl
def Q1n2 (Z : State) (a1 : Addr) (a2 : Addr) (p3 : Int32) (s0 : Int32) (s1 : Int32) (v0 : Int64) (v1 : Int64) (h0 : Heap) (n0 : Nat) (v : Option Value) (h : Heap) (L : List Loc) : Prop := ∃ r1 : Addr, ∃ zr : Int32, ∃ vr : List Value, v = some (.ref r1) ∧ Fr n0 L ∧ Keep h0 h [] ∧ n0 ≤ r1 ∧ h0.size ≤ r1 ∧ AV Z h r1 .int zr vr ∧ ((zr = (0 : Int32) ∧ vr = [] ∧ own_good p3 s0 s1 (0 : Int32) v0 v1 (0 : Int64) false false false) ∨ (zr = (1 : Int32) ∧ vr = [.int (0 : Int32)] ∧ own_good p3 s0 s1 (0 : Int32) v0 v1 (0 : Int64) true false false) ∨ (zr = (1 : Int32) ∧ vr = [.int (1 : Int32)] ∧ own_good p3 s0 s1 (0 : Int32) v0 v1 (0 : Int64) false true false) ∨ (zr = (2 : Int32) ∧ vr = [.int (0 : Int32), .int (1 : Int32)] ∧ own_good p3 s0 s1 (0 : Int32) v0 v1 (0 : Int64) true true false))
set_option maxRecDepth 65536 in
set_option maxHeartbeats 40000000 in
theorem rm1n2 (l : Launch) (Z : State) (a0 : Array Value) (hw : ∀ d ∈ tables_1, d.before a0 Z = true) (ws : List Jvm.Cond) (a1 : Addr) (a2 : Addr) (p3 : Int32) (s0 : Int32) (s1 : Int32) (v0 : Int64) (v1 : Int64) (h0 : Heap) (n0 : Nat) (Z0 : n0 ≤ h0.size) (V_a1 : AV Z h0 a1 .int (2 : Int32) [(.int s0), (.int s1)]) (V_a2 : AV Z h0 a2 .long (2 : Int32) [(.long v0), (.long v1)]) (hcap : own_cap p3) (hs0 : own_rg s0 p3) (hs1 : own_rg s1 p3) (hv0 : own_vr v0) (hv1 : own_vr v1) :
    MetFree l (⟨"com/example/hindsight/hindsight/solvers/Knapsack", "heaviest", "([I[JI)[I"⟩ : MethodName) (head1 (Jvm.Cond.code (⟨"com/example/hindsight/hindsight/solvers/Knapsack", "heaviest", "([I[JI)[I"⟩ : MethodName) prog_60_method_2_code 12 (some (.array .int)) :: ws) ({ frames := 0, cells := 6, slots := 54, locals := 0 } : Room)) (fun a U => a = #[(.ref a1), (.ref a2), (.int p3)] ∧ Z.Warmed39 U.vm ∧ U.heap = h0) (fun _ _ _ _ _ => True) (fun _ U o U' => ∃ v L, o = .returned v ∧ Q1n2 Z a1 a2 p3 s0 s1 v0 v1 h0 n0 v U'.heap L ∧ FrameEnd U o U' L ({ frames := 0, cells := 6, slots := 54, locals := 0 } : Room).cells ({ frames := 0, cells := 6, slots := 54, locals := 0 } : Room).slots) := by
  refine MetFree.of_bodySF (plainFor_of_name pn_0) hisR ?_
  intro p e s m args below meth c s₁ Bd hml0 hP hK
  obtain ⟨rfl, hZ, hh⟩ := hP
  have hx := Bd.exec
  have hlk : meth.locks = false := by first | exact BodyLoose.notSynchronized Bd | exact Body.notSynchronized Bd
  have hby := Bd.bytes
  have hml : c.maxLocals = 12 := hml0
  have hown : s.vm.findClass "com/example/hindsight/hindsight/solvers/Knapsack" = some m.cls := findClass_of_methodNamed Bd.named
  have hnm := (name_of_methodNamed Bd.named Bd.method).1
  have X0 : Stand p l e ({ frames := 0, cells := 6, slots := 54, locals := 0 } : Room) s m #[(.ref a1), (.ref a2), (.int p3)] below meth c s₁ [] 0 0 := Stand.of_body Bd
  have e0 : s₁.heap = h0 := by rw [← hh, Bd.state]; rfl
  have N0 := Fr.nil n0
  have pre0 : ∀ t, Steps p.tables e below (s₁.setTop (mkF m 0 #[.val (.ref a1), .val (.ref a2), .val (.int p3), .unset, .unset, .unset, .unset, .unset, .unset, .unset, .unset, .unset] [])) t → Steps p.tables e below (s₁.setTop (entryFrame m #[(.ref a1), (.ref a2), (.int p3)] 12)) t := fun t k => castTop (ef_1n2 m a1 a2 p3) k
  obtain ⟨cl1, A1, S1, Nl1, M1⟩ := id V_a1
  obtain ⟨T2, h2, k2, X2, e2, E2, A2, st2⟩ := newP X0 hx hZ (hw _ (List.mem_of_getElem? (i := 1) rfl)) e0 (g := (mkF m 6 #[(kR a1), (kR a2), (kI p3), (kI 2), kU, kU, kU, kU, kU, kU, kU, kU] [(.int (p3 + (1 : Int32)))])) rfl (hb hby d1_6) rfl (own_cneg hcap) (cap := 16) (own_cle hcap) (by decide) (by decide) (by decide)
  obtain ⟨b2, g2⟩ : ∃ z, z = h0.size := ⟨_, rfl⟩
  rw [← g2] at A2 st2
  have ne3 : a1 ≠ b2 := Nat.ne_of_lt (Nat.lt_of_lt_of_le V_a1.lt (Nat.le_of_eq g2.symm))
  have ne4 : a2 ≠ b2 := Nat.ne_of_lt (Nat.lt_of_lt_of_le V_a2.lt (Nat.le_of_eq g2.symm))
  have g_b2 : n0 ≤ b2 := Nat.le_trans Z0 (Nat.le_of_eq g2.symm)
  have sz_b2 : h0.size ≤ b2 := Nat.le_trans (Keep.refl h0 []).1 (Nat.le_of_eq g2.symm)
  have K2 : Keep h0 h2 [] := (Keep.refl h0 []).ext E2
  have V_b2 : AJ Z h2 b2 .long (p3 + (1 : Int32)) (fun _ => 0) := AJ.new A2 (own_cneg hcap) rfl
  obtain ⟨T5, h5, k5, X5, e5, E5, A5, Ex5, O5, st5⟩ := newRA X2 hx hZ hown (C := "[Z") (ty := .boolean) (by decide) (hw _ (List.mem_of_getElem? (i := 6) rfl)) (hw _ (List.mem_of_getElem? (i := 7) rfl)) e2 (g := (mkF m 11 #[(kR a1), (kR a2), (kI p3), (kI 2), (kR b2), kU, kU, kU, kU, kU, kU, kU] [(.int (2 : Int32))])) rfl (hb hby d1_11) rfl (by decide) (cap := 2) (by decide) (by decide) (by decide) (by decide) (ad := "[[Z") (by decide)
  obtain ⟨b5, g5⟩ : ∃ z, z = h2.size := ⟨_, rfl⟩
  rw [← g5] at A5 st5
  have F6 := (V_a1.ext E2)
  have ne7 : a1 ≠ b5 := Nat.ne_of_lt (Nat.lt_of_lt_of_le F6.lt (Nat.le_of_eq g5.symm))
  have F8 := (V_a2.ext E2)
  have ne9 : a2 ≠ b5 := Nat.ne_of_lt (Nat.lt_of_lt_of_le F8.lt (Nat.le_of_eq g5.symm))
  have ne10 : b2 ≠ b5 := Nat.ne_of_lt (Nat.lt_of_lt_of_le V_b2.lt (Nat.le_of_eq g5.symm))
  have g_b5 : n0 ≤ b5 := Nat.le_trans (Nat.le_trans Z0 K2.1) (Nat.le_of_eq g5.symm)
  have sz_b5 : h0.size ≤ b5 := Nat.le_trans K2.1 (Nat.le_of_eq g5.symm)
  have K5 : Keep h0 h5 [] := K2.ext E5
  have V_b5 : AV Z h5 b5 (.array .boolean) (2 : Int32) [.null, .null] := AV.new A5 (by decide)
  have Kc5 : AK h5 b5 k5 := ⟨_, A5.1, rfl⟩
  obtain ⟨T11, h11, k11, X11, e11, E11, A11, Ex11, st11⟩ := newPE X5 hx hZ (hw _ (List.mem_of_getElem? (i := 8) rfl)) e5 (g := (mkF m 32 (Lq1n2 a1 a2 p3 b2 b5 (kI 0) kU kU kU) [(.int (p3 + (1 : Int32))), (.int (0 : Int32)), (.ref b5)])) rfl (hb hby d1_32) rfl (own_cneg hcap) (cap := 16) (own_cle hcap) (by decide) (by decide) (by decide) (ad := "[Z") (by decide)
  obtain ⟨b11, g11⟩ : ∃ z, z = h5.size := ⟨_, rfl⟩
  rw [← g11] at A11 st11 Ex11
  have F12 := (F6.ext E5)
  have ne13 : a1 ≠ b11 := Nat.ne_of_lt (Nat.lt_of_lt_of_le F12.lt (Nat.le_of_eq g11.symm))
  have F14 := (F8.ext E5)
  have ne15 : a2 ≠ b11 := Nat.ne_of_lt (Nat.lt_of_lt_of_le F14.lt (Nat.le_of_eq g11.symm))
  have F16 := (V_b2.ext E5)
  have ne17 : b2 ≠ b11 := Nat.ne_of_lt (Nat.lt_of_lt_of_le F16.lt (Nat.le_of_eq g11.symm))
  have ne18 : b5 ≠ b11 := Nat.ne_of_lt (Nat.lt_of_lt_of_le V_b5.lt (Nat.le_of_eq g11.symm))
  have g_b11 : n0 ≤ b11 := Nat.le_trans (Nat.le_trans Z0 K5.1) (Nat.le_of_eq g11.symm)
  have sz_b11 : h0.size ≤ b11 := Nat.le_trans K5.1 (Nat.le_of_eq g11.symm)
  have K11 : Keep h0 h11 [] := K5.ext E11
  have V_b11 : AI Z h11 b11 .boolean (p3 + (1 : Int32)) (fun _ => 0) := AI.new A11 (own_cneg hcap) rfl
  have F20 := (V_b5.ext E11)
  obtain ⟨cl19, A19, S19, Nl19, M19⟩ := id F20
  have hin19 : ¬ ((0 : Int32) < 0 ∨ cl19.slots.size ≤ ((0 : Int32)).toNatClampNeg) := AV.inb S19 Nl19 ⟨by decide, by decide⟩
  have F21 := (Kc5.ext E11)
  obtain ⟨T19, h19, X19, e19, W19, st19⟩ := stR X11 hx hZ e11 A19 (j := (0 : Int32)) hin19 rfl (Sto.ofVA A19 (F21.cls A19) O5 (Ins.self Ex11)) (g := (mkF m 34 (Lq1n2 a1 a2 p3 b2 b5 (kI 0) kU kU kU) [(.ref b11), (.int (0 : Int32)), (.ref b5)])) rfl rfl (hb hby d1_34)
  have V19 : AV Z h19 b5 (.array .boolean) (2 : Int32) [(.ref b11), .null] := AV.set A19 S19 Nl19 M19 W19
  have K19 : Keep h0 h19 [] := K11.wr W19 (Or.inr sz_b5)
  have N19 := Fr.snoc X19 N0 g_b5
  have pre23 : ∀ t, Steps p.tables e below (T19.setTop (mkF m 35 (Lq1n2 a1 a2 p3 b2 b5 (kI 0) kU kU kU) [])) t → Steps p.tables e below (s₁.setTop (entryFrame m #[(.ref a1), (.ref a2), (.int p3)] 12)) t := fun t k => pre0 t (by
    show Steps _ _ _ (s₁.setTop (mkF m 0 #[(kR a1), (kR a2), (kI p3), kU, kU, kU, kU, kU, kU, kU, kU, kU] [])) _
    refine XS.aloadN X0.here hx rfl (hb hby d1_0) rfl rfl ?_
    refine X0.arraylength hx (by rw [e0]; exact A1.1) (State.isArrayOf_alike hZ.alike A1.2.1) (g := (mkF m 1 #[(kR a1), (kR a2), (kI p3), kU, kU, kU, kU, kU, kU, kU, kU, kU] [(.ref a1)])) rfl rfl (hb hby d1_1) _ ?_
    rw [AV.len S1 Nl1 M1]
    refine XS.istoreN X0.here hx rfl (hb hby d1_2) rfl (l' := #[(kR a1), (kR a2), (kI p3), (kI 2), kU, kU, kU, kU, kU, kU, kU, kU]) rfl ?_
    show Steps _ _ _ (s₁.setTop (mkF m 3 #[(kR a1), (kR a2), (kI p3), (kI 2), kU, kU, kU, kU, kU, kU, kU, kU] [])) _
    refine XS.iloadN X0.here hx rfl (hb hby d1_3) rfl ?_
    refine XS.iconst X0.here hx rfl (hb hby d1_4) ?_
    refine XS.iadd X0.here hx rfl (hb hby d1_5) rfl ?_
    refine st2 _ ?_
    show Steps _ _ _ (T2.setTop (mkF m 8 #[(kR a1), (kR a2), (kI p3), (kI 2), kU, kU, kU, kU, kU, kU, kU, kU] [(.ref b2)])) _
    refine XS.astore X2.here hx rfl (hb hby d1_8) rfl rfl (l' := #[(kR a1), (kR a2), (kI p3), (kI 2), (kR b2), kU, kU, kU, kU, kU, kU, kU]) rfl ?_
    refine XS.iloadN X2.here hx rfl (hb hby d1_10) rfl ?_
    refine st5 _ ?_
    refine XS.astore X5.here hx rfl (hb hby d1_14) rfl rfl (l' := (Lq1n2 a1 a2 p3 b2 b5 kU kU kU kU)) rfl ?_
    show Steps _ _ _ (T5.setTop (mkF m 16 (Lq1n2 a1 a2 p3 b2 b5 kU kU kU kU) [])) _
    refine XS.iconst X5.here hx rfl (hb hby d1_16) ?_
    refine XS.istore X5.here hx rfl (hb hby d1_17) rfl (l' := (Lq1n2 a1 a2 p3 b2 b5 (kI 0) kU kU kU)) rfl ?_
    refine XS.iload X5.here hx rfl (hb hby d1_19) rfl ?_
    show Steps _ _ _ (T5.setTop (mkF m 21 (Lq1n2 a1 a2 p3 b2 b5 (kI 0) kU kU kU) [(.int (0 : Int32))])) _
    refine XS.iloadN X5.here hx rfl (hb hby d1_21) rfl ?_
    refine XS.icmpNo X5.here hx rfl (hb hby d1_22) rfl (tlt (by decide : (0 : Int32) < (2 : Int32))).2.1 ?_
    refine XS.aload X5.here hx rfl (hb hby d1_25) rfl rfl ?_
    show Steps _ _ _ (T5.setTop (mkF m 27 (Lq1n2 a1 a2 p3 b2 b5 (kI 0) kU kU kU) [(.ref b5)])) _
    refine XS.iload X5.here hx rfl (hb hby d1_27) rfl ?_
    refine XS.iloadN X5.here hx rfl (hb hby d1_29) rfl ?_
    refine XS.iconst X5.here hx rfl (hb hby d1_30) ?_
    show Steps _ _ _ (T5.setTop (mkF m 31 (Lq1n2 a1 a2 p3 b2 b5 (kI 0) kU kU kU) [(.int (1 : Int32)), (.int p3), (.int (0 : Int32)), (.ref b5)])) _
    refine XS.iadd X5.here hx rfl (hb hby d1_31) rfl ?_
    refine st11 _ ?_
    refine st19 _ ?_
    exact k)
  refine own_jn (α := State × (List Loc) × Heap × Slot × Slot × Slot × (Nat → Int64) × (Nat → Int32)) (fun a => match a with | (T22, locs22, h22, uc0, ux0, uy0, ub1, ut0) => own_item p3 (fun _ => 0) v0 s0 ub1 ut0 ∧ own_sl uc0 ∧ own_sl2 ux0 uy0 ∧ Stand p l e ({ frames := 0, cells := 6, slots := 54, locals := 0 } : Room) s m #[(.ref a1), (.ref a2), (.int p3)] below meth c T22 locs22 3 34 ∧ T22.heap = h22 ∧ Fr n0 locs22 ∧ Keep h19 h22 [b2, b11] ∧ AJ Z h22 b2 .long (p3 + (1 : Int32)) ub1 ∧ AI Z h22 b11 .boolean (p3 + (1 : Int32)) ut0 ∧ (∀ t, Steps p.tables e below (T22.setTop (mkF m 109 (Lq1n2 a1 a2 p3 b2 b5 (kI 0) uc0 ux0 uy0) [])) t → Steps p.tables e below (s₁.setTop (entryFrame m #[(.ref a1), (.ref a2), (.int p3)] 12)) t)) ?_ ?_
  · rintro ⟨T22, locs22, h22, uc0, ux0, uy0, ub1, ut0⟩ ⟨hI0, hsl_uc0, hsl_ux0, X22, e22, N22, Kl22, Lf22_0, Lf22_1, pre22⟩
    have K24 : Keep h0 h22 [] := K19.trans Kl22 (allS (Or.inr sz_b2) (allS (Or.inr sz_b11) all0))
    obtain ⟨T25, h25, k25, X25, e25, E25, A25, Ex25, st25⟩ := newPE X22 hx hZ (hw _ (List.mem_of_getElem? (i := 8) rfl)) e22 (g := (mkF m 32 (Lq1n2 a1 a2 p3 b2 b5 (kI 1) uc0 ux0 uy0) [(.int (p3 + (1 : Int32))), (.int (1 : Int32)), (.ref b5)])) rfl (hb hby d1_32) rfl (own_cneg hcap) (cap := 16) (own_cle hcap) (by decide) (by decide) (by decide) (ad := "[Z") (by decide)
    obtain ⟨b25, g25⟩ : ∃ z, z = h22.size := ⟨_, rfl⟩
    rw [← g25] at A25 st25 Ex25
    have F26 := ((Ex11.wr W19).keep Kl22)
    have ne27 : b11 ≠ b25 := Nat.ne_of_lt (Nat.lt_of_lt_of_le F26.lt (Nat.le_of_eq g25.symm))
    have F28 := (((F12.ext E11).other W19 ne7).keep Kl22 (ninS ne3 (ninS ne13 nin0)))
    have ne29 : a1 ≠ b25 := Nat.ne_of_lt (Nat.lt_of_lt_of_le F28.lt (Nat.le_of_eq g25.symm))
    have F30 := (((F14.ext E11).other W19 ne9).keep Kl22 (ninS ne4 (ninS ne15 nin0)))
    have ne31 : a2 ≠ b25 := Nat.ne_of_lt (Nat.lt_of_lt_of_le F30.lt (Nat.le_of_eq g25.symm))
    have F32 := (V19.keep Kl22 (ninS (Ne.symm ne10) (ninS ne18 nin0)))
    have ne33 : b5 ≠ b25 := Nat.ne_of_lt (Nat.lt_of_lt_of_le F32.lt (Nat.le_of_eq g25.symm))
    have ne34 : b2 ≠ b25 := Nat.ne_of_lt (Nat.lt_of_lt_of_le Lf22_0.lt (Nat.le_of_eq g25.symm))
    have g_b25 : n0 ≤ b25 := Nat.le_trans (Nat.le_trans Z0 K24.1) (Nat.le_of_eq g25.symm)
    have sz_b25 : h0.size ≤ b25 := Nat.le_trans K24.1 (Nat.le_of_eq g25.symm)
    have K25 : Keep h0 h25 [] := K24.ext E25
    have V_b25 : AI Z h25 b25 .boolean (p3 + (1 : Int32)) (fun _ => 0) := AI.new A25 (own_cneg hcap) rfl
    have F36 := (F32.ext E25)
    obtain ⟨cl35, A35, S35, Nl35, M35⟩ := id F36
    have hin35 : ¬ ((1 : Int32) < 0 ∨ cl35.slots.size ≤ ((1 : Int32)).toNatClampNeg) := AV.inb S35 Nl35 ⟨by decide, by decide⟩
    have F37 := (((F21.wr W19).keep Kl22).ext E25)
    obtain ⟨T35, h35, X35, e35, W35, st35⟩ := stR X25 hx hZ e25 A35 (j := (1 : Int32)) hin35 rfl (Sto.ofVA A35 (F37.cls A35) O5 (Ins.self Ex25)) (g := (mkF m 34 (Lq1n2 a1 a2 p3 b2 b5 (kI 1) uc0 ux0 uy0) [(.ref b25), (.int (1 : Int32)), (.ref b5)])) rfl rfl (hb hby d1_34)
    have V35 : AV Z h35 b5 (.array .boolean) (2 : Int32) [(.ref b11), (.ref b25)] := AV.set A35 S35 Nl35 M35 W35
    have K35 : Keep h0 h35 [] := K25.wr W35 (Or.inr sz_b5)
    have N35 := Fr.snoc X35 N22 g_b5
    have pre39 : ∀ t, Steps p.tables e below (T35.setTop (mkF m 35 (Lq1n2 a1 a2 p3 b2 b5 (kI 1) uc0 ux0 uy0) [])) t → Steps p.tables e below (s₁.setTop (entryFrame m #[(.ref a1), (.ref a2), (.int p3)] 12)) t := fun t k => pre22 t (by
      show Steps _ _ _ (T22.setTop (mkF m 109 (Lq1n2 a1 a2 p3 b2 b5 (kI 0) uc0 ux0 uy0) [])) _
      refine XS.iinc X22.here hx rfl (hb hby d1_109) rfl (l' := (Lq1n2 a1 a2 p3 b2 b5 (kI 1) uc0 ux0 uy0)) rfl ?_
      refine XS.goto X22.here hx rfl (pc0 := 112) (pc' := 19) rfl (hb hby d1_112) (by decide) (by decide) ?_
      show Steps _ _ _ (T22.setTop (mkF m 19 (Lq1n2 a1 a2 p3 b2 b5 (kI 1) uc0 ux0 uy0) [])) _
      refine XS.iload X22.here hx rfl (hb hby d1_19) rfl ?_
      refine XS.iloadN X22.here hx rfl (hb hby d1_21) rfl ?_
      refine XS.icmpNo X22.here hx rfl (hb hby d1_22) rfl (tlt (by decide : (1 : Int32) < (2 : Int32))).2.1 ?_
      show Steps _ _ _ (T22.setTop (mkF m 25 (Lq1n2 a1 a2 p3 b2 b5 (kI 1) uc0 ux0 uy0) [])) _
      refine XS.aload X22.here hx rfl (hb hby d1_25) rfl rfl ?_
      refine XS.iload X22.here hx rfl (hb hby d1_27) rfl ?_
      refine XS.iloadN X22.here hx rfl (hb hby d1_29) rfl ?_
      show Steps _ _ _ (T22.setTop (mkF m 30 (Lq1n2 a1 a2 p3 b2 b5 (kI 1) uc0 ux0 uy0) [(.int p3), (.int (1 : Int32)), (.ref b5)])) _
      refine XS.iconst X22.here hx rfl (hb hby d1_30) ?_
      refine XS.iadd X22.here hx rfl (hb hby d1_31) rfl ?_
      refine st25 _ ?_
      refine st35 _ ?_
      exact k)
    refine own_jn (α := State × (List Loc) × Heap × Slot × Slot × Slot × (Nat → Int64) × (Nat → Int32)) (fun a => match a with | (T38, locs38, h38, uc1, ux1, uy1, ub2, ut1) => own_item p3 ub1 v1 s1 ub2 ut1 ∧ own_sl uc1 ∧ own_sl2 ux1 uy1 ∧ Stand p l e ({ frames := 0, cells := 6, slots := 54, locals := 0 } : Room) s m #[(.ref a1), (.ref a2), (.int p3)] below meth c T38 locs38 4 50 ∧ T38.heap = h38 ∧ Fr n0 locs38 ∧ Keep h35 h38 [b2, b25] ∧ AJ Z h38 b2 .long (p3 + (1 : Int32)) ub2 ∧ AI Z h38 b25 .boolean (p3 + (1 : Int32)) ut1 ∧ (∀ t, Steps p.tables e below (T38.setTop (mkF m 109 (Lq1n2 a1 a2 p3 b2 b5 (kI 1) uc1 ux1 uy1) [])) t → Steps p.tables e below (s₁.setTop (entryFrame m #[(.ref a1), (.ref a2), (.int p3)] 12)) t)) ?_ ?_
    · rintro ⟨T38, locs38, h38, uc1, ux1, uy1, ub2, ut1⟩ ⟨hI1, hsl_uc1, hsl_ux1, X38, e38, N38, Kl38, Lf38_0, Lf38_1, pre38⟩
      have K40 : Keep h0 h38 [] := K35.trans Kl38 (allS (Or.inr sz_b2) (allS (Or.inr sz_b25) all0))
      obtain ⟨T41, h41, k41, X41, e41, E41, A41, st41⟩ := newP X38 hx hZ (hw _ (List.mem_of_getElem? (i := 8) rfl)) e38 (g := (mkF m 119 (Lq1n2 a1 a2 p3 b2 b5 (kI 0) uc1 ux1 uy1) [(.int (2 : Int32))])) rfl (hb hby d1_119) rfl (by decide) (cap := 2) (by decide) (by decide) (by decide) (by decide)
      obtain ⟨b41, g41⟩ : ∃ z, z = h38.size := ⟨_, rfl⟩
      rw [← g41] at A41 st41
      have F42 := (((F26.ext E25).wr W35).keep Kl38)
      have ne43 : b11 ≠ b41 := Nat.ne_of_lt (Nat.lt_of_lt_of_le F42.lt (Nat.le_of_eq g41.symm))
      have F44 := ((Ex25.wr W35).keep Kl38)
      have ne45 : b25 ≠ b41 := Nat.ne_of_lt (Nat.lt_of_lt_of_le F44.lt (Nat.le_of_eq g41.symm))
      have F46 := (((F28.ext E25).other W35 ne7).keep Kl38 (ninS ne3 (ninS ne29 nin0)))
      have ne47 : a1 ≠ b41 := Nat.ne_of_lt (Nat.lt_of_lt_of_le F46.lt (Nat.le_of_eq g41.symm))
      have F48 := (((F30.ext E25).other W35 ne9).keep Kl38 (ninS ne4 (ninS ne31 nin0)))
      have ne49 : a2 ≠ b41 := Nat.ne_of_lt (Nat.lt_of_lt_of_le F48.lt (Nat.le_of_eq g41.symm))
      have F50 := (V35.keep Kl38 (ninS (Ne.symm ne10) (ninS ne33 nin0)))
      have ne51 : b5 ≠ b41 := Nat.ne_of_lt (Nat.lt_of_lt_of_le F50.lt (Nat.le_of_eq g41.symm))
      have ne52 : b2 ≠ b41 := Nat.ne_of_lt (Nat.lt_of_lt_of_le Lf38_0.lt (Nat.le_of_eq g41.symm))
      have g_b41 : n0 ≤ b41 := Nat.le_trans (Nat.le_trans Z0 K40.1) (Nat.le_of_eq g41.symm)
      have sz_b41 : h0.size ≤ b41 := Nat.le_trans K40.1 (Nat.le_of_eq g41.symm)
      have K41 : Keep h0 h41 [] := K40.ext E41
      have V_b41 : AV Z h41 b41 .boolean (2 : Int32) [(.int (0 : Int32)), (.int (0 : Int32))] := AV.new A41 (by decide)
      have F54 := (F50.ext E41)
      obtain ⟨cl53, A53, S53, Nl53, M53⟩ := id F54
      have hin53 : ¬ ((1 : Int32) < 0 ∨ cl53.slots.size ≤ ((1 : Int32)).toNatClampNeg) := AV.inb S53 Nl53 ⟨by decide, by decide⟩
      have hat53 : cl53.slots[((1 : Int32)).toNatClampNeg]? = some (.ref b25) := AV.at S53 rfl
      have F56 := (Lf38_1.ext E41)
      obtain ⟨cl55, A55, S55, M55, G55⟩ := id F56
      have hin55 : ¬ (p3 < 0 ∨ cl55.slots.size ≤ (p3).toNatClampNeg) := inb_of S55 (own_ixr hcap ⟨hcap.1, Int.le_refl _⟩)
      have hat55 : cl55.slots[(p3).toNatClampNeg]? = some (.int (ut1 (p3).toNatClampNeg)) := AI.at S55 G55 hin55
      have pre57 : ∀ t, Steps p.tables e below (T41.setTop (mkF m 144 (Lq1n2 a1 a2 p3 b2 b5 (kI 0) (kR b41) (kI p3) (kI 1)) [(.int (ut1 (p3).toNatClampNeg))])) t → Steps p.tables e below (s₁.setTop (entryFrame m #[(.ref a1), (.ref a2), (.int p3)] 12)) t := fun t k => pre38 t (by
        show Steps _ _ _ (T38.setTop (mkF m 109 (Lq1n2 a1 a2 p3 b2 b5 (kI 1) uc1 ux1 uy1) [])) _
        refine XS.iinc X38.here hx rfl (hb hby d1_109) rfl (l' := (Lq1n2 a1 a2 p3 b2 b5 (kI 2) uc1 ux1 uy1)) rfl ?_
        show Steps _ _ _ (T38.setTop (mkF m 112 (Lq1n2 a1 a2 p3 b2 b5 (kI 2) uc1 ux1 uy1) [])) _
        refine XS.goto X38.here hx rfl (pc0 := 112) (pc' := 19) rfl (hb hby d1_112) (by decide) (by decide) ?_
        refine XS.iload X38.here hx rfl (hb hby d1_19) rfl ?_
        refine XS.iloadN X38.here hx rfl (hb hby d1_21) rfl ?_
        show Steps _ _ _ (T38.setTop (mkF m 22 (Lq1n2 a1 a2 p3 b2 b5 (kI 2) uc1 ux1 uy1) [(.int (2 : Int32)), (.int (2 : Int32))])) _
        refine XS.icmpYes X38.here hx rfl (pc0 := 22) (pc' := 115) rfl (hb hby d1_22) rfl (flt (by decide : ¬ ((2 : Int32) < (2 : Int32)))).2.1 (by decide) (by decide) ?_
        refine XS.iconst X38.here hx rfl (hb hby d1_115) ?_
        refine XS.istore X38.here hx rfl (hb hby d1_116) rfl (l' := (Lq1n2 a1 a2 p3 b2 b5 (kI 0) uc1 ux1 uy1)) rfl ?_
        show Steps _ _ _ (T38.setTop (mkF m 118 (Lq1n2 a1 a2 p3 b2 b5 (kI 0) uc1 ux1 uy1) [])) _
        refine XS.iloadN X38.here hx rfl (hb hby d1_118) rfl ?_
        refine st41 _ ?_
        refine XS.astore X41.here hx rfl (hb hby d1_121) rfl rfl (l' := (Lq1n2 a1 a2 p3 b2 b5 (kI 0) (kR b41) ux1 uy1)) (by rcases hsl_uc1 with rfl | ⟨_, rfl⟩ | ⟨_, rfl⟩ <;> rfl) ?_
        refine XS.iloadN X41.here hx rfl (hb hby d1_123) rfl ?_
        show Steps _ _ _ (T41.setTop (mkF m 124 (Lq1n2 a1 a2 p3 b2 b5 (kI 0) (kR b41) ux1 uy1) [(.int p3)])) _
        refine XS.istore X41.here hx rfl (hb hby d1_124) rfl (l' := (Lq1n2 a1 a2 p3 b2 b5 (kI 0) (kR b41) (kI p3) kU)) (by rcases hsl_ux1 with ⟨rfl, rfl⟩ | ⟨_, rfl, rfl⟩ <;> rfl) ?_
        refine XS.iloadN X41.here hx rfl (hb hby d1_126) rfl ?_
        refine XS.iconst X41.here hx rfl (hb hby d1_127) ?_
        show Steps _ _ _ (T41.setTop (mkF m 128 (Lq1n2 a1 a2 p3 b2 b5 (kI 0) (kR b41) (kI p3) kU) [(.int (1 : Int32)), (.int (2 : Int32))])) _
        refine XS.isub X41.here hx rfl (hb hby d1_128) rfl ?_
        refine XS.istore X41.here hx rfl (hb hby d1_129) rfl (l' := (Lq1n2 a1 a2 p3 b2 b5 (kI 0) (kR b41) (kI p3) (kI 1))) rfl ?_
        refine XS.iload X41.here hx rfl (hb hby d1_131) rfl ?_
        show Steps _ _ _ (T41.setTop (mkF m 133 (Lq1n2 a1 a2 p3 b2 b5 (kI 0) (kR b41) (kI p3) (kI 1)) [(.int (1 : Int32))])) _
        refine XS.ifNo X41.here hx rfl (hb hby d1_133) rfl ((if0 _ _).trans (flt (by decide : ¬ ((1 : Int32) < (0 : Int32)))).1) ?_
        refine XS.aload X41.here hx rfl (hb hby d1_136) rfl rfl ?_
        refine XS.iload X41.here hx rfl (hb hby d1_138) rfl ?_
        refine X41.aaload hx (j := (1 : Int32)) (v := (.ref b25)) (by rw [e41]; exact A53.1) (State.isArrayOf_alike hZ.alike A53.2.1) rfl A53.2.2 hin53 hat53 (g := (mkF m 140 (Lq1n2 a1 a2 p3 b2 b5 (kI 0) (kR b41) (kI p3) (kI 1)) [(.int (1 : Int32)), (.ref b5)])) rfl rfl (hb hby d1_140) _ ?_
        show Steps _ _ _ (T41.setTop (mkF m 141 (Lq1n2 a1 a2 p3 b2 b5 (kI 0) (kR b41) (kI p3) (kI 1)) [(.ref b25)])) _
        refine XS.iload X41.here hx rfl (hb hby d1_141) rfl ?_
        refine X41.baloadBooleans hx (j := p3) (v := (.int (ut1 (p3).toNatClampNeg))) (by rw [e41]; exact A55.1) (State.isArrayOf_alike hZ.alike A55.2.1) A55.2.2 hin55 hat55 (g := (mkF m 143 (Lq1n2 a1 a2 p3 b2 b5 (kI 0) (kR b41) (kI p3) (kI 1)) [(.int p3), (.ref b25)])) rfl rfl (hb hby d1_143) _ ?_
        exact k)
      by_cases hc58 : (ut1 (p3).toNatClampNeg) = (0 : Int32)
      · have hT59 : own_tr ut1 s1 p3 false p3 := Or.inl ⟨rfl, hc58, rfl⟩
        obtain ⟨cl60, A60, S60, Nl60, M60⟩ := id F54
        have hin60 : ¬ ((0 : Int32) < 0 ∨ cl60.slots.size ≤ ((0 : Int32)).toNatClampNeg) := AV.inb S60 Nl60 ⟨by decide, by decide⟩
        have hat60 : cl60.slots[((0 : Int32)).toNatClampNeg]? = some (.ref b11) := AV.at S60 rfl
        have F62 := ((((Lf22_1.ext E25).other W35 (Ne.symm ne18)).keep Kl38 (ninS (Ne.symm ne17) (ninS ne27 nin0))).ext E41)
        obtain ⟨cl61, A61, S61, M61, G61⟩ := id F62
        have hin61 : ¬ (p3 < 0 ∨ cl61.slots.size ≤ (p3).toNatClampNeg) := inb_of S61 (own_ixr hcap ⟨hcap.1, Int.le_refl _⟩)
        have hat61 : cl61.slots[(p3).toNatClampNeg]? = some (.int (ut0 (p3).toNatClampNeg)) := AI.at S61 G61 hin61
        have pre63 : ∀ t, Steps p.tables e below (T41.setTop (mkF m 144 (Lq1n2 a1 a2 p3 b2 b5 (kI 0) (kR b41) (kI p3) (kI 0)) [(.int (ut0 (p3).toNatClampNeg))])) t → Steps p.tables e below (s₁.setTop (entryFrame m #[(.ref a1), (.ref a2), (.int p3)] 12)) t := fun t k => pre57 t (by
          show Steps _ _ _ (T41.setTop (mkF m 144 (Lq1n2 a1 a2 p3 b2 b5 (kI 0) (kR b41) (kI p3) (kI 1)) [(.int (ut1 (p3).toNatClampNeg))])) _
          refine XS.ifYes X41.here hx rfl (pc0 := 144) (pc' := 165) rfl (hb hby d1_144) rfl ((if0 _ _).trans (teq hc58).1) (by decide) (by decide) ?_
          refine XS.iinc X41.here hx rfl (hb hby d1_165) rfl (l' := (Lq1n2 a1 a2 p3 b2 b5 (kI 0) (kR b41) (kI p3) (kI 0))) rfl ?_
          show Steps _ _ _ (T41.setTop (mkF m 168 (Lq1n2 a1 a2 p3 b2 b5 (kI 0) (kR b41) (kI p3) (kI 0)) [])) _
          refine XS.goto X41.here hx rfl (pc0 := 168) (pc' := 131) rfl (hb hby d1_168) (by decide) (by decide) ?_
          refine XS.iload X41.here hx rfl (hb hby d1_131) rfl ?_
          refine XS.ifNo X41.here hx rfl (hb hby d1_133) rfl ((if0 _ _).trans (flt (by decide : ¬ ((0 : Int32) < (0 : Int32)))).1) ?_
          show Steps _ _ _ (T41.setTop (mkF m 136 (Lq1n2 a1 a2 p3 b2 b5 (kI 0) (kR b41) (kI p3) (kI 0)) [])) _
          refine XS.aload X41.here hx rfl (hb hby d1_136) rfl rfl ?_
          refine XS.iload X41.here hx rfl (hb hby d1_138) rfl ?_
          refine X41.aaload hx (j := (0 : Int32)) (v := (.ref b11)) (by rw [e41]; exact A60.1) (State.isArrayOf_alike hZ.alike A60.2.1) rfl A60.2.2 hin60 hat60 (g := (mkF m 140 (Lq1n2 a1 a2 p3 b2 b5 (kI 0) (kR b41) (kI p3) (kI 0)) [(.int (0 : Int32)), (.ref b5)])) rfl rfl (hb hby d1_140) _ ?_
          refine XS.iload X41.here hx rfl (hb hby d1_141) rfl ?_
          refine X41.baloadBooleans hx (j := p3) (v := (.int (ut0 (p3).toNatClampNeg))) (by rw [e41]; exact A61.1) (State.isArrayOf_alike hZ.alike A61.2.1) A61.2.2 hin61 hat61 (g := (mkF m 143 (Lq1n2 a1 a2 p3 b2 b5 (kI 0) (kR b41) (kI p3) (kI 0)) [(.int p3), (.ref b11)])) rfl rfl (hb hby d1_143) _ ?_
          exact k)
        by_cases hc64 : (ut0 (p3).toNatClampNeg) = (0 : Int32)
        · have hT65 : own_tr ut0 s0 p3 false p3 := Or.inl ⟨rfl, hc64, rfl⟩
          obtain ⟨T66, h66, k66, X66, e66, E66, A66, st66⟩ := newP X41 hx hZ (hw _ (List.mem_of_getElem? (i := 0) rfl)) e41 (g := (mkF m 173 (Lq1n2 a1 a2 p3 b2 b5 (kI 0) (kR b41) (kI p3) (kI (-1))) [(.int (0 : Int32))])) rfl (hb hby d1_173) rfl (by decide) (cap := 0) (by decide) (by decide) (by decide) (by decide)
          obtain ⟨b66, g66⟩ : ∃ z, z = h41.size := ⟨_, rfl⟩
          rw [← g66] at A66 st66
          have F67 := (F42.ext E41)
          have ne68 : b11 ≠ b66 := Nat.ne_of_lt (Nat.lt_of_lt_of_le F67.lt (Nat.le_of_eq g66.symm))
          have F69 := (F44.ext E41)
          have ne70 : b25 ≠ b66 := Nat.ne_of_lt (Nat.lt_of_lt_of_le F69.lt (Nat.le_of_eq g66.symm))
          have F71 := (F46.ext E41)
          have ne72 : a1 ≠ b66 := Nat.ne_of_lt (Nat.lt_of_lt_of_le F71.lt (Nat.le_of_eq g66.symm))
          have F73 := (F48.ext E41)
          have ne74 : a2 ≠ b66 := Nat.ne_of_lt (Nat.lt_of_lt_of_le F73.lt (Nat.le_of_eq g66.symm))
          have ne75 : b5 ≠ b66 := Nat.ne_of_lt (Nat.lt_of_lt_of_le F54.lt (Nat.le_of_eq g66.symm))
          have F76 := (Lf38_0.ext E41)
          have ne77 : b2 ≠ b66 := Nat.ne_of_lt (Nat.lt_of_lt_of_le F76.lt (Nat.le_of_eq g66.symm))
          have ne78 : b41 ≠ b66 := Nat.ne_of_lt (Nat.lt_of_lt_of_le V_b41.lt (Nat.le_of_eq g66.symm))
          have g_b66 : n0 ≤ b66 := Nat.le_trans (Nat.le_trans Z0 K41.1) (Nat.le_of_eq g66.symm)
          have sz_b66 : h0.size ≤ b66 := Nat.le_trans K41.1 (Nat.le_of_eq g66.symm)
          have K66 : Keep h0 h66 [] := K41.ext E66
          have V_b66 : AV Z h66 b66 .int (0 : Int32) [] := AV.new A66 (by decide)
          have F80 := (V_b41.ext E66)
          obtain ⟨cl79, A79, S79, Nl79, M79⟩ := id F80
          have hin79 : ¬ ((0 : Int32) < 0 ∨ cl79.slots.size ≤ ((0 : Int32)).toNatClampNeg) := AV.inb S79 Nl79 ⟨by decide, by decide⟩
          have hat79 : cl79.slots[((0 : Int32)).toNatClampNeg]? = some (.int (0 : Int32)) := AV.at S79 rfl
          obtain ⟨cl81, A81, S81, Nl81, M81⟩ := id F80
          have hin81 : ¬ ((1 : Int32) < 0 ∨ cl81.slots.size ≤ ((1 : Int32)).toNatClampNeg) := AV.inb S81 Nl81 ⟨by decide, by decide⟩
          have hat81 : cl81.slots[((1 : Int32)).toNatClampNeg]? = some (.int (0 : Int32)) := AV.at S81 rfl
          obtain ⟨fs, hr, hrun, hended, hW, hsame⟩ := X66.leave (v := some (.ref b66)) (fun h => by rw [Bd.returns] at h; cases h) hlk
          refine ⟨_, _, pre63 _ ?_, hrun, hended, _, _, rfl, ?_, ⟨_, rfl⟩, hW, hsame.mono (by decide) (by decide)⟩
          · show Steps _ _ _ (T41.setTop (mkF m 144 (Lq1n2 a1 a2 p3 b2 b5 (kI 0) (kR b41) (kI p3) (kI 0)) [(.int (ut0 (p3).toNatClampNeg))])) _
            refine XS.ifYes X41.here hx rfl (pc0 := 144) (pc' := 165) rfl (hb hby d1_144) rfl ((if0 _ _).trans (teq hc64).1) (by decide) (by decide) ?_
            refine XS.iinc X41.here hx rfl (hb hby d1_165) rfl (l' := (Lq1n2 a1 a2 p3 b2 b5 (kI 0) (kR b41) (kI p3) (kI (-1)))) rfl ?_
            refine XS.goto X41.here hx rfl (pc0 := 168) (pc' := 131) rfl (hb hby d1_168) (by decide) (by decide) ?_
            show Steps _ _ _ (T41.setTop (mkF m 131 (Lq1n2 a1 a2 p3 b2 b5 (kI 0) (kR b41) (kI p3) (kI (-1))) [])) _
            refine XS.iload X41.here hx rfl (hb hby d1_131) rfl ?_
            refine XS.ifYes X41.here hx rfl (pc0 := 133) (pc' := 171) rfl (hb hby d1_133) rfl ((if0 _ _).trans (tlt (by decide : (-1 : Int32) < (0 : Int32))).1) (by decide) (by decide) ?_
            refine XS.iload X41.here hx rfl (hb hby d1_171) rfl ?_
            refine st66 _ ?_
            show Steps _ _ _ (T66.setTop (mkF m 175 (Lq1n2 a1 a2 p3 b2 b5 (kI 0) (kR b41) (kI p3) (kI (-1))) [(.ref b66)])) _
            refine XS.astore X66.here hx rfl (hb hby d1_175) rfl rfl (l' := (Lq1n2 a1 a2 p3 b2 b5 (kI 0) (kR b41) (kI p3) (kR b66))) rfl ?_
            refine XS.iconst X66.here hx rfl (hb hby d1_177) ?_
            refine XS.istore X66.here hx rfl (hb hby d1_178) rfl (l' := #[(kR a1), (kR a2), (kI p3), (kI 2), (kR b2), (kR b5), (kI 0), (kR b41), (kI p3), (kR b66), (kI 0), kU]) rfl ?_
            show Steps _ _ _ (T66.setTop (mkF m 180 #[(kR a1), (kR a2), (kI p3), (kI 2), (kR b2), (kR b5), (kI 0), (kR b41), (kI p3), (kR b66), (kI 0), kU] [])) _
            refine XS.iconst X66.here hx rfl (hb hby d1_180) ?_
            refine XS.istore X66.here hx rfl (hb hby d1_181) rfl (l' := #[(kR a1), (kR a2), (kI p3), (kI 2), (kR b2), (kR b5), (kI 0), (kR b41), (kI p3), (kR b66), (kI 0), (kI 0)]) rfl ?_
            refine XS.iload X66.here hx rfl (hb hby d1_183) rfl ?_
            show Steps _ _ _ (T66.setTop (mkF m 185 #[(kR a1), (kR a2), (kI p3), (kI 2), (kR b2), (kR b5), (kI 0), (kR b41), (kI p3), (kR b66), (kI 0), (kI 0)] [(.int (0 : Int32))])) _
            refine XS.iloadN X66.here hx rfl (hb hby d1_185) rfl ?_
            refine XS.icmpNo X66.here hx rfl (hb hby d1_186) rfl (tlt (by decide : (0 : Int32) < (2 : Int32))).2.1 ?_
            refine XS.aload X66.here hx rfl (hb hby d1_189) rfl rfl ?_
            show Steps _ _ _ (T66.setTop (mkF m 191 #[(kR a1), (kR a2), (kI p3), (kI 2), (kR b2), (kR b5), (kI 0), (kR b41), (kI p3), (kR b66), (kI 0), (kI 0)] [(.ref b41)])) _
            refine XS.iload X66.here hx rfl (hb hby d1_191) rfl ?_
            refine X66.baloadBooleans hx (j := (0 : Int32)) (v := (.int (0 : Int32))) (by rw [e66]; exact A79.1) (State.isArrayOf_alike hZ.alike A79.2.1) A79.2.2 hin79 hat79 (g := (mkF m 193 #[(kR a1), (kR a2), (kI p3), (kI 2), (kR b2), (kR b5), (kI 0), (kR b41), (kI p3), (kR b66), (kI 0), (kI 0)] [(.int (0 : Int32)), (.ref b41)])) rfl rfl (hb hby d1_193) _ ?_
            refine XS.ifYes X66.here hx rfl (pc0 := 194) (pc' := 207) rfl (hb hby d1_194) rfl ((if0 _ _).trans (teq (rfl : (0 : Int32) = (0 : Int32))).1) (by decide) (by decide) ?_
            refine XS.iinc X66.here hx rfl (hb hby d1_207) rfl (l' := #[(kR a1), (kR a2), (kI p3), (kI 2), (kR b2), (kR b5), (kI 0), (kR b41), (kI p3), (kR b66), (kI 0), (kI 1)]) rfl ?_
            show Steps _ _ _ (T66.setTop (mkF m 210 #[(kR a1), (kR a2), (kI p3), (kI 2), (kR b2), (kR b5), (kI 0), (kR b41), (kI p3), (kR b66), (kI 0), (kI 1)] [])) _
            refine XS.goto X66.here hx rfl (pc0 := 210) (pc' := 183) rfl (hb hby d1_210) (by decide) (by decide) ?_
            refine XS.iload X66.here hx rfl (hb hby d1_183) rfl ?_
            refine XS.iloadN X66.here hx rfl (hb hby d1_185) rfl ?_
            show Steps _ _ _ (T66.setTop (mkF m 186 #[(kR a1), (kR a2), (kI p3), (kI 2), (kR b2), (kR b5), (kI 0), (kR b41), (kI p3), (kR b66), (kI 0), (kI 1)] [(.int (2 : Int32)), (.int (1 : Int32))])) _
            refine XS.icmpNo X66.here hx rfl (hb hby d1_186) rfl (tlt (by decide : (1 : Int32) < (2 : Int32))).2.1 ?_
            refine XS.aload X66.here hx rfl (hb hby d1_189) rfl rfl ?_
            refine XS.iload X66.here hx rfl (hb hby d1_191) rfl ?_
            refine X66.baloadBooleans hx (j := (1 : Int32)) (v := (.int (0 : Int32))) (by rw [e66]; exact A81.1) (State.isArrayOf_alike hZ.alike A81.2.1) A81.2.2 hin81 hat81 (g := (mkF m 193 #[(kR a1), (kR a2), (kI p3), (kI 2), (kR b2), (kR b5), (kI 0), (kR b41), (kI p3), (kR b66), (kI 0), (kI 1)] [(.int (1 : Int32)), (.ref b41)])) rfl rfl (hb hby d1_193) _ ?_
            show Steps _ _ _ (T66.setTop (mkF m 194 #[(kR a1), (kR a2), (kI p3), (kI 2), (kR b2), (kR b5), (kI 0), (kR b41), (kI p3), (kR b66), (kI 0), (kI 1)] [(.int (0 : Int32))])) _
            refine XS.ifYes X66.here hx rfl (pc0 := 194) (pc' := 207) rfl (hb hby d1_194) rfl ((if0 _ _).trans (teq (rfl : (0 : Int32) = (0 : Int32))).1) (by decide) (by decide) ?_
            refine XS.iinc X66.here hx rfl (hb hby d1_207) rfl (l' := #[(kR a1), (kR a2), (kI p3), (kI 2), (kR b2), (kR b5), (kI 0), (kR b41), (kI p3), (kR b66), (kI 0), (kI 2)]) rfl ?_
            refine XS.goto X66.here hx rfl (pc0 := 210) (pc' := 183) rfl (hb hby d1_210) (by decide) (by decide) ?_
            show Steps _ _ _ (T66.setTop (mkF m 183 #[(kR a1), (kR a2), (kI p3), (kI 2), (kR b2), (kR b5), (kI 0), (kR b41), (kI p3), (kR b66), (kI 0), (kI 2)] [])) _
            refine XS.iload X66.here hx rfl (hb hby d1_183) rfl ?_
            refine XS.iloadN X66.here hx rfl (hb hby d1_185) rfl ?_
            refine XS.icmpYes X66.here hx rfl (pc0 := 186) (pc' := 213) rfl (hb hby d1_186) rfl (flt (by decide : ¬ ((2 : Int32) < (2 : Int32)))).2.1 (by decide) (by decide) ?_
            show Steps _ _ _ (T66.setTop (mkF m 213 #[(kR a1), (kR a2), (kI p3), (kI 2), (kR b2), (kR b5), (kI 0), (kR b41), (kI p3), (kR b66), (kI 0), (kI 2)] [])) _
            refine XS.aload X66.here hx rfl (hb hby d1_213) rfl rfl ?_
            show Steps _ _ _ (T66.setTop (mkF m 215 #[(kR a1), (kR a2), (kI p3), (kI 2), (kR b2), (kR b5), (kI 0), (kR b41), (kI p3), (kR b66), (kI 0), (kI 2)] [(.ref b66)])) _
            jvm_step X66.here [X66.here.top, hx, (hb hby d1_215), X66.method', Bd.returns, Value.isRef, FieldType.isReference]
            first | (intro acts; rw [hr _ acts rfl rfl rfl]) | rw [hr _ _ rfl rfl rfl]
            exact Steps.refl _
          · show Q1n2 Z a1 a2 p3 s0 s1 v0 v1 h0 n0 _ T66.heap _
            rw [e66]
            exact ⟨b66, (0 : Int32), [], rfl, N38, K66, g_b66, sz_b66, V_b66, (Or.inl ⟨rfl, rfl, own_fin hcap hs0 hs1 ⟨Int.le_refl _, hcap.1⟩ hv0 hv1 own_vr0 hI0 hI1 own_it0 (Or.inl ⟨rfl, rfl, rfl⟩) hT59 hT65⟩)⟩
        · have hT83 : own_tr ut0 s0 p3 true (p3 - s0) := Or.inr ⟨rfl, hc64, rfl⟩
          have hr84 : own_rg (p3 - s0) p3 := own_rm0 hcap ⟨hcap.1, Int.le_refl _⟩ hs0 hI0 hc64
          obtain ⟨cl85, A85, S85, Nl85, M85⟩ := id V_b41
          have hin85 : ¬ ((0 : Int32) < 0 ∨ cl85.slots.size ≤ ((0 : Int32)).toNatClampNeg) := AV.inb S85 Nl85 ⟨by decide, by decide⟩
          obtain ⟨T85, h85, X85, e85, W85, st85⟩ := stZ X41 hx hZ e41 A85 (j := (0 : Int32)) hin85 (g := (mkF m 152 (Lq1n2 a1 a2 p3 b2 b5 (kI 0) (kR b41) (kI p3) (kI 0)) [(.int (1 : Int32)), (.int (0 : Int32)), (.ref b41)])) rfl rfl (hb hby d1_152)
          have V85 : AV Z h85 b41 .boolean (2 : Int32) [(.int (1 : Int32)), (.int (0 : Int32))] := AV.set A85 S85 Nl85 M85 W85
          have K85 : Keep h0 h85 [] := K41.wr W85 (Or.inr sz_b41)
          have N85 := Fr.snoc X85 N38 g_b41
          have F87 := ((F46.ext E41).other W85 ne47)
          obtain ⟨cl86, A86, S86, Nl86, M86⟩ := id F87
          have hin86 : ¬ ((0 : Int32) < 0 ∨ cl86.slots.size ≤ ((0 : Int32)).toNatClampNeg) := AV.inb S86 Nl86 ⟨by decide, by decide⟩
          have hat86 : cl86.slots[((0 : Int32)).toNatClampNeg]? = some (.int s0) := AV.at S86 rfl
          obtain ⟨T88, h88, k88, X88, e88, E88, A88, st88⟩ := newP X85 hx hZ (hw _ (List.mem_of_getElem? (i := 0) rfl)) e85 (g := (mkF m 173 (Lq1n2 a1 a2 p3 b2 b5 (kI 1) (kR b41) (kI (p3 - s0)) (kI (-1))) [(.int (1 : Int32))])) rfl (hb hby d1_173) rfl (by decide) (cap := 1) (by decide) (by decide) (by decide) (by decide)
          obtain ⟨b88, g88⟩ : ∃ z, z = h85.size := ⟨_, rfl⟩
          rw [← g88] at A88 st88
          have F89 := ((F42.ext E41).wr W85)
          have ne90 : b11 ≠ b88 := Nat.ne_of_lt (Nat.lt_of_lt_of_le F89.lt (Nat.le_of_eq g88.symm))
          have F91 := ((F44.ext E41).wr W85)
          have ne92 : b25 ≠ b88 := Nat.ne_of_lt (Nat.lt_of_lt_of_le F91.lt (Nat.le_of_eq g88.symm))
          have ne93 : a1 ≠ b88 := Nat.ne_of_lt (Nat.lt_of_lt_of_le F87.lt (Nat.le_of_eq g88.symm))
          have F94 := ((F48.ext E41).other W85 ne49)
          have ne95 : a2 ≠ b88 := Nat.ne_of_lt (Nat.lt_of_lt_of_le F94.lt (Nat.le_of_eq g88.symm))
          have F96 := (F54.other W85 ne51)
          have ne97 : b5 ≠ b88 := Nat.ne_of_lt (Nat.lt_of_lt_of_le F96.lt (Nat.le_of_eq g88.symm))
          have F98 := ((Lf38_0.ext E41).other W85 ne52)
          have ne99 : b2 ≠ b88 := Nat.ne_of_lt (Nat.lt_of_lt_of_le F98.lt (Nat.le_of_eq g88.symm))
          have ne100 : b41 ≠ b88 := Nat.ne_of_lt (Nat.lt_of_lt_of_le V85.lt (Nat.le_of_eq g88.symm))
          have g_b88 : n0 ≤ b88 := Nat.le_trans (Nat.le_trans Z0 K85.1) (Nat.le_of_eq g88.symm)
          have sz_b88 : h0.size ≤ b88 := Nat.le_trans K85.1 (Nat.le_of_eq g88.symm)
          have K88 : Keep h0 h88 [] := K85.ext E88
          have V_b88 : AV Z h88 b88 .int (1 : Int32) [(.int (0 : Int32))] := AV.new A88 (by decide)
          have F102 := (V85.ext E88)
          obtain ⟨cl101, A101, S101, Nl101, M101⟩ := id F102
          have hin101 : ¬ ((0 : Int32) < 0 ∨ cl101.slots.size ≤ ((0 : Int32)).toNatClampNeg) := AV.inb S101 Nl101 ⟨by decide, by decide⟩
          have hat101 : cl101.slots[((0 : Int32)).toNatClampNeg]? = some (.int (1 : Int32)) := AV.at S101 rfl
          obtain ⟨cl103, A103, S103, Nl103, M103⟩ := id V_b88
          have hin103 : ¬ ((0 : Int32) < 0 ∨ cl103.slots.size ≤ ((0 : Int32)).toNatClampNeg) := AV.inb S103 Nl103 ⟨by decide, by decide⟩
          obtain ⟨T103, h103, X103, e103, W103, st103⟩ := stI X88 hx hZ e88 A103 (j := (0 : Int32)) hin103 (g := (mkF m 206 #[(kR a1), (kR a2), (kI p3), (kI 2), (kR b2), (kR b5), (kI 1), (kR b41), (kI (p3 - s0)), (kR b88), (kI 1), (kI 0)] [(.int (0 : Int32)), (.int (0 : Int32)), (.ref b88)])) rfl rfl (hb hby d1_206)
          have V103 : AV Z h103 b88 .int (1 : Int32) [(.int (0 : Int32))] := AV.set A103 S103 Nl103 M103 W103
          have K103 : Keep h0 h103 [] := K88.wr W103 (Or.inr sz_b88)
          have N103 := Fr.snoc X103 N85 g_b88
          have F105 := (F102.other W103 ne100)
          obtain ⟨cl104, A104, S104, Nl104, M104⟩ := id F105
          have hin104 : ¬ ((1 : Int32) < 0 ∨ cl104.slots.size ≤ ((1 : Int32)).toNatClampNeg) := AV.inb S104 Nl104 ⟨by decide, by decide⟩
          have hat104 : cl104.slots[((1 : Int32)).toNatClampNeg]? = some (.int (0 : Int32)) := AV.at S104 rfl
          obtain ⟨fs, hr, hrun, hended, hW, hsame⟩ := X103.leave (v := some (.ref b88)) (fun h => by rw [Bd.returns] at h; cases h) hlk
          refine ⟨_, _, pre63 _ ?_, hrun, hended, _, _, rfl, ?_, ⟨_, rfl⟩, hW, hsame.mono (by decide) (by decide)⟩
          · show Steps _ _ _ (T41.setTop (mkF m 144 (Lq1n2 a1 a2 p3 b2 b5 (kI 0) (kR b41) (kI p3) (kI 0)) [(.int (ut0 (p3).toNatClampNeg))])) _
            refine XS.ifNo X41.here hx rfl (hb hby d1_144) rfl ((if0 _ _).trans (feq hc64).1) ?_
            refine XS.aload X41.here hx rfl (hb hby d1_147) rfl rfl ?_
            show Steps _ _ _ (T41.setTop (mkF m 149 (Lq1n2 a1 a2 p3 b2 b5 (kI 0) (kR b41) (kI p3) (kI 0)) [(.ref b41)])) _
            refine XS.iload X41.here hx rfl (hb hby d1_149) rfl ?_
            refine XS.iconst X41.here hx rfl (hb hby d1_151) ?_
            refine st85 _ ?_
            refine XS.iinc X85.here hx rfl (hb hby d1_153) rfl (l' := (Lq1n2 a1 a2 p3 b2 b5 (kI 1) (kR b41) (kI p3) (kI 0))) rfl ?_
            show Steps _ _ _ (T85.setTop (mkF m 156 (Lq1n2 a1 a2 p3 b2 b5 (kI 1) (kR b41) (kI p3) (kI 0)) [])) _
            refine XS.iload X85.here hx rfl (hb hby d1_156) rfl ?_
            refine XS.aloadN X85.here hx rfl (hb hby d1_158) rfl rfl ?_
            refine XS.iload X85.here hx rfl (hb hby d1_159) rfl ?_
            refine X85.iaload hx (j := (0 : Int32)) (v := (.int s0)) (by rw [e85]; exact A86.1) (State.isArrayOf_alike hZ.alike A86.2.1) A86.2.2 hin86 hat86 (g := (mkF m 161 (Lq1n2 a1 a2 p3 b2 b5 (kI 1) (kR b41) (kI p3) (kI 0)) [(.int (0 : Int32)), (.ref a1), (.int p3)])) rfl rfl (hb hby d1_161) _ ?_
            show Steps _ _ _ (T85.setTop (mkF m 162 (Lq1n2 a1 a2 p3 b2 b5 (kI 1) (kR b41) (kI p3) (kI 0)) [(.int s0), (.int p3)])) _
            refine XS.isub X85.here hx rfl (hb hby d1_162) rfl ?_
            refine XS.istore X85.here hx rfl (hb hby d1_163) rfl (l' := (Lq1n2 a1 a2 p3 b2 b5 (kI 1) (kR b41) (kI (p3 - s0)) (kI 0))) rfl ?_
            refine XS.iinc X85.here hx rfl (hb hby d1_165) rfl (l' := (Lq1n2 a1 a2 p3 b2 b5 (kI 1) (kR b41) (kI (p3 - s0)) (kI (-1)))) rfl ?_
            show Steps _ _ _ (T85.setTop (mkF m 168 (Lq1n2 a1 a2 p3 b2 b5 (kI 1) (kR b41) (kI (p3 - s0)) (kI (-1))) [])) _
            refine XS.goto X85.here hx rfl (pc0 := 168) (pc' := 131) rfl (hb hby d1_168) (by decide) (by decide) ?_
            refine XS.iload X85.here hx rfl (hb hby d1_131) rfl ?_
            refine XS.ifYes X85.here hx rfl (pc0 := 133) (pc' := 171) rfl (hb hby d1_133) rfl ((if0 _ _).trans (tlt (by decide : (-1 : Int32) < (0 : Int32))).1) (by decide) (by decide) ?_
            show Steps _ _ _ (T85.setTop (mkF m 171 (Lq1n2 a1 a2 p3 b2 b5 (kI 1) (kR b41) (kI (p3 - s0)) (kI (-1))) [])) _
            refine XS.iload X85.here hx rfl (hb hby d1_171) rfl ?_
            refine st88 _ ?_
            refine XS.astore X88.here hx rfl (hb hby d1_175) rfl rfl (l' := (Lq1n2 a1 a2 p3 b2 b5 (kI 1) (kR b41) (kI (p3 - s0)) (kR b88))) rfl ?_
            refine XS.iconst X88.here hx rfl (hb hby d1_177) ?_
            show Steps _ _ _ (T88.setTop (mkF m 178 (Lq1n2 a1 a2 p3 b2 b5 (kI 1) (kR b41) (kI (p3 - s0)) (kR b88)) [(.int (0 : Int32))])) _
            refine XS.istore X88.here hx rfl (hb hby d1_178) rfl (l' := #[(kR a1), (kR a2), (kI p3), (kI 2), (kR b2), (kR b5), (kI 1), (kR b41), (kI (p3 - s0)), (kR b88), (kI 0), kU]) rfl ?_
            refine XS.iconst X88.here hx rfl (hb hby d1_180) ?_
            refine XS.istore X88.here hx rfl (hb hby d1_181) rfl (l' := #[(kR a1), (kR a2), (kI p3), (kI 2), (kR b2), (kR b5), (kI 1), (kR b41), (kI (p3 - s0)), (kR b88), (kI 0), (kI 0)]) rfl ?_
            show Steps _ _ _ (T88.setTop (mkF m 183 #[(kR a1), (kR a2), (kI p3), (kI 2), (kR b2), (kR b5), (kI 1), (kR b41), (kI (p3 - s0)), (kR b88), (kI 0), (kI 0)] [])) _
            refine XS.iload X88.here hx rfl (hb hby d1_183) rfl ?_
            refine XS.iloadN X88.here hx rfl (hb hby d1_185) rfl ?_
            refine XS.icmpNo X88.here hx rfl (hb hby d1_186) rfl (tlt (by decide : (0 : Int32) < (2 : Int32))).2.1 ?_
            show Steps _ _ _ (T88.setTop (mkF m 189 #[(kR a1), (kR a2), (kI p3), (kI 2), (kR b2), (kR b5), (kI 1), (kR b41), (kI (p3 - s0)), (kR b88), (kI 0), (kI 0)] [])) _
            refine XS.aload X88.here hx rfl (hb hby d1_189) rfl rfl ?_
            refine XS.iload X88.here hx rfl (hb hby d1_191) rfl ?_
            refine X88.baloadBooleans hx (j := (0 : Int32)) (v := (.int (1 : Int32))) (by rw [e88]; exact A101.1) (State.isArrayOf_alike hZ.alike A101.2.1) A101.2.2 hin101 hat101 (g := (mkF m 193 #[(kR a1), (kR a2), (kI p3), (kI 2), (kR b2), (kR b5), (kI 1), (kR b41), (kI (p3 - s0)), (kR b88), (kI 0), (kI 0)] [(.int (0 : Int32)), (.ref b41)])) rfl rfl (hb hby d1_193) _ ?_
            refine XS.ifNo X88.here hx rfl (hb hby d1_194) rfl ((if0 _ _).trans (feq (by decide : ¬ ((1 : Int32) = (0 : Int32)))).1) ?_
            show Steps _ _ _ (T88.setTop (mkF m 197 #[(kR a1), (kR a2), (kI p3), (kI 2), (kR b2), (kR b5), (kI 1), (kR b41), (kI (p3 - s0)), (kR b88), (kI 0), (kI 0)] [])) _
            refine XS.aload X88.here hx rfl (hb hby d1_197) rfl rfl ?_
            refine XS.iload X88.here hx rfl (hb hby d1_199) rfl ?_
            refine XS.iinc X88.here hx rfl (hb hby d1_201) rfl (l' := #[(kR a1), (kR a2), (kI p3), (kI 2), (kR b2), (kR b5), (kI 1), (kR b41), (kI (p3 - s0)), (kR b88), (kI 1), (kI 0)]) rfl ?_
            show Steps _ _ _ (T88.setTop (mkF m 204 #[(kR a1), (kR a2), (kI p3), (kI 2), (kR b2), (kR b5), (kI 1), (kR b41), (kI (p3 - s0)), (kR b88), (kI 1), (kI 0)] [(.int (0 : Int32)), (.ref b88)])) _
            refine XS.iload X88.here hx rfl (hb hby d1_204) rfl ?_
            refine st103 _ ?_
            refine XS.iinc X103.here hx rfl (hb hby d1_207) rfl (l' := #[(kR a1), (kR a2), (kI p3), (kI 2), (kR b2), (kR b5), (kI 1), (kR b41), (kI (p3 - s0)), (kR b88), (kI 1), (kI 1)]) rfl ?_
            refine XS.goto X103.here hx rfl (pc0 := 210) (pc' := 183) rfl (hb hby d1_210) (by decide) (by decide) ?_
            show Steps _ _ _ (T103.setTop (mkF m 183 #[(kR a1), (kR a2), (kI p3), (kI 2), (kR b2), (kR b5), (kI 1), (kR b41), (kI (p3 - s0)), (kR b88), (kI 1), (kI 1)] [])) _
            refine XS.iload X103.here hx rfl (hb hby d1_183) rfl ?_
            refine XS.iloadN X103.here hx rfl (hb hby d1_185) rfl ?_
            refine XS.icmpNo X103.here hx rfl (hb hby d1_186) rfl (tlt (by decide : (1 : Int32) < (2 : Int32))).2.1 ?_
            show Steps _ _ _ (T103.setTop (mkF m 189 #[(kR a1), (kR a2), (kI p3), (kI 2), (kR b2), (kR b5), (kI 1), (kR b41), (kI (p3 - s0)), (kR b88), (kI 1), (kI 1)] [])) _
            refine XS.aload X103.here hx rfl (hb hby d1_189) rfl rfl ?_
            refine XS.iload X103.here hx rfl (hb hby d1_191) rfl ?_
            refine X103.baloadBooleans hx (j := (1 : Int32)) (v := (.int (0 : Int32))) (by rw [e103]; exact A104.1) (State.isArrayOf_alike hZ.alike A104.2.1) A104.2.2 hin104 hat104 (g := (mkF m 193 #[(kR a1), (kR a2), (kI p3), (kI 2), (kR b2), (kR b5), (kI 1), (kR b41), (kI (p3 - s0)), (kR b88), (kI 1), (kI 1)] [(.int (1 : Int32)), (.ref b41)])) rfl rfl (hb hby d1_193) _ ?_
            refine XS.ifYes X103.here hx rfl (pc0 := 194) (pc' := 207) rfl (hb hby d1_194) rfl ((if0 _ _).trans (teq (rfl : (0 : Int32) = (0 : Int32))).1) (by decide) (by decide) ?_
            show Steps _ _ _ (T103.setTop (mkF m 207 #[(kR a1), (kR a2), (kI p3), (kI 2), (kR b2), (kR b5), (kI 1), (kR b41), (kI (p3 - s0)), (kR b88), (kI 1), (kI 1)] [])) _
            refine XS.iinc X103.here hx rfl (hb hby d1_207) rfl (l' := #[(kR a1), (kR a2), (kI p3), (kI 2), (kR b2), (kR b5), (kI 1), (kR b41), (kI (p3 - s0)), (kR b88), (kI 1), (kI 2)]) rfl ?_
            refine XS.goto X103.here hx rfl (pc0 := 210) (pc' := 183) rfl (hb hby d1_210) (by decide) (by decide) ?_
            refine XS.iload X103.here hx rfl (hb hby d1_183) rfl ?_
            show Steps _ _ _ (T103.setTop (mkF m 185 #[(kR a1), (kR a2), (kI p3), (kI 2), (kR b2), (kR b5), (kI 1), (kR b41), (kI (p3 - s0)), (kR b88), (kI 1), (kI 2)] [(.int (2 : Int32))])) _
            refine XS.iloadN X103.here hx rfl (hb hby d1_185) rfl ?_
            refine XS.icmpYes X103.here hx rfl (pc0 := 186) (pc' := 213) rfl (hb hby d1_186) rfl (flt (by decide : ¬ ((2 : Int32) < (2 : Int32)))).2.1 (by decide) (by decide) ?_
            refine XS.aload X103.here hx rfl (hb hby d1_213) rfl rfl ?_
            show Steps _ _ _ (T103.setTop (mkF m 215 #[(kR a1), (kR a2), (kI p3), (kI 2), (kR b2), (kR b5), (kI 1), (kR b41), (kI (p3 - s0)), (kR b88), (kI 1), (kI 2)] [(.ref b88)])) _
            jvm_step X103.here [X103.here.top, hx, (hb hby d1_215), X103.method', Bd.returns, Value.isRef, FieldType.isReference]
            first | (intro acts; rw [hr _ acts rfl rfl rfl]) | rw [hr _ _ rfl rfl rfl]
            exact Steps.refl _
          · show Q1n2 Z a1 a2 p3 s0 s1 v0 v1 h0 n0 _ T103.heap _
            rw [e103]
            exact ⟨b88, (1 : Int32), [.int (0 : Int32)], rfl, N103, K103, g_b88, sz_b88, V103, (Or.inr (Or.inl ⟨rfl, rfl, own_fin hcap hs0 hs1 ⟨Int.le_refl _, hcap.1⟩ hv0 hv1 own_vr0 hI0 hI1 own_it0 (Or.inl ⟨rfl, rfl, rfl⟩) hT59 hT83⟩))⟩
      · have hT107 : own_tr ut1 s1 p3 true (p3 - s1) := Or.inr ⟨rfl, hc58, rfl⟩
        have hr108 : own_rg (p3 - s1) p3 := own_rm0 hcap ⟨hcap.1, Int.le_refl _⟩ hs1 hI1 hc58
        obtain ⟨cl109, A109, S109, Nl109, M109⟩ := id V_b41
        have hin109 : ¬ ((1 : Int32) < 0 ∨ cl109.slots.size ≤ ((1 : Int32)).toNatClampNeg) := AV.inb S109 Nl109 ⟨by decide, by decide⟩
        obtain ⟨T109, h109, X109, e109, W109, st109⟩ := stZ X41 hx hZ e41 A109 (j := (1 : Int32)) hin109 (g := (mkF m 152 (Lq1n2 a1 a2 p3 b2 b5 (kI 0) (kR b41) (kI p3) (kI 1)) [(.int (1 : Int32)), (.int (1 : Int32)), (.ref b41)])) rfl rfl (hb hby d1_152)
        have V109 : AV Z h109 b41 .boolean (2 : Int32) [(.int (0 : Int32)), (.int (1 : Int32))] := AV.set A109 S109 Nl109 M109 W109
        have K109 : Keep h0 h109 [] := K41.wr W109 (Or.inr sz_b41)
        have N109 := Fr.snoc X109 N38 g_b41
        have F111 := ((F46.ext E41).other W109 ne47)
        obtain ⟨cl110, A110, S110, Nl110, M110⟩ := id F111
        have hin110 : ¬ ((1 : Int32) < 0 ∨ cl110.slots.size ≤ ((1 : Int32)).toNatClampNeg) := AV.inb S110 Nl110 ⟨by decide, by decide⟩
        have hat110 : cl110.slots[((1 : Int32)).toNatClampNeg]? = some (.int s1) := AV.at S110 rfl
        have F113 := (F54.other W109 ne51)
        obtain ⟨cl112, A112, S112, Nl112, M112⟩ := id F113
        have hin112 : ¬ ((0 : Int32) < 0 ∨ cl112.slots.size ≤ ((0 : Int32)).toNatClampNeg) := AV.inb S112 Nl112 ⟨by decide, by decide⟩
        have hat112 : cl112.slots[((0 : Int32)).toNatClampNeg]? = some (.ref b11) := AV.at S112 rfl
        have F115 := (((((Lf22_1.ext E25).other W35 (Ne.symm ne18)).keep Kl38 (ninS (Ne.symm ne17) (ninS ne27 nin0))).ext E41).other W109 ne43)
        obtain ⟨cl114, A114, S114, M114, G114⟩ := id F115
        have hin114 : ¬ ((p3 - s1) < 0 ∨ cl114.slots.size ≤ ((p3 - s1)).toNatClampNeg) := inb_of S114 (own_ixr hcap hr108)
        have hat114 : cl114.slots[((p3 - s1)).toNatClampNeg]? = some (.int (ut0 ((p3 - s1)).toNatClampNeg)) := AI.at S114 G114 hin114
        have pre116 : ∀ t, Steps p.tables e below (T109.setTop (mkF m 144 (Lq1n2 a1 a2 p3 b2 b5 (kI 1) (kR b41) (kI (p3 - s1)) (kI 0)) [(.int (ut0 ((p3 - s1)).toNatClampNeg))])) t → Steps p.tables e below (s₁.setTop (entryFrame m #[(.ref a1), (.ref a2), (.int p3)] 12)) t := fun t k => pre57 t (by
          show Steps _ _ _ (T41.setTop (mkF m 144 (Lq1n2 a1 a2 p3 b2 b5 (kI 0) (kR b41) (kI p3) (kI 1)) [(.int (ut1 (p3).toNatClampNeg))])) _
          refine XS.ifNo X41.here hx rfl (hb hby d1_144) rfl ((if0 _ _).trans (feq hc58).1) ?_
          refine XS.aload X41.here hx rfl (hb hby d1_147) rfl rfl ?_
          refine XS.iload X41.here hx rfl (hb hby d1_149) rfl ?_
          show Steps _ _ _ (T41.setTop (mkF m 151 (Lq1n2 a1 a2 p3 b2 b5 (kI 0) (kR b41) (kI p3) (kI 1)) [(.int (1 : Int32)), (.ref b41)])) _
          refine XS.iconst X41.here hx rfl (hb hby d1_151) ?_
          refine st109 _ ?_
          refine XS.iinc X109.here hx rfl (hb hby d1_153) rfl (l' := (Lq1n2 a1 a2 p3 b2 b5 (kI 1) (kR b41) (kI p3) (kI 1))) rfl ?_
          refine XS.iload X109.here hx rfl (hb hby d1_156) rfl ?_
          show Steps _ _ _ (T109.setTop (mkF m 158 (Lq1n2 a1 a2 p3 b2 b5 (kI 1) (kR b41) (kI p3) (kI 1)) [(.int p3)])) _
          refine XS.aloadN X109.here hx rfl (hb hby d1_158) rfl rfl ?_
          refine XS.iload X109.here hx rfl (hb hby d1_159) rfl ?_
          refine X109.iaload hx (j := (1 : Int32)) (v := (.int s1)) (by rw [e109]; exact A110.1) (State.isArrayOf_alike hZ.alike A110.2.1) A110.2.2 hin110 hat110 (g := (mkF m 161 (Lq1n2 a1 a2 p3 b2 b5 (kI 1) (kR b41) (kI p3) (kI 1)) [(.int (1 : Int32)), (.ref a1), (.int p3)])) rfl rfl (hb hby d1_161) _ ?_
          refine XS.isub X109.here hx rfl (hb hby d1_162) rfl ?_
          show Steps _ _ _ (T109.setTop (mkF m 163 (Lq1n2 a1 a2 p3 b2 b5 (kI 1) (kR b41) (kI p3) (kI 1)) [(.int (p3 - s1))])) _
          refine XS.istore X109.here hx rfl (hb hby d1_163) rfl (l' := (Lq1n2 a1 a2 p3 b2 b5 (kI 1) (kR b41) (kI (p3 - s1)) (kI 1))) rfl ?_
          refine XS.iinc X109.here hx rfl (hb hby d1_165) rfl (l' := (Lq1n2 a1 a2 p3 b2 b5 (kI 1) (kR b41) (kI (p3 - s1)) (kI 0))) rfl ?_
          refine XS.goto X109.here hx rfl (pc0 := 168) (pc' := 131) rfl (hb hby d1_168) (by decide) (by decide) ?_
          show Steps _ _ _ (T109.setTop (mkF m 131 (Lq1n2 a1 a2 p3 b2 b5 (kI 1) (kR b41) (kI (p3 - s1)) (kI 0)) [])) _
          refine XS.iload X109.here hx rfl (hb hby d1_131) rfl ?_
          refine XS.ifNo X109.here hx rfl (hb hby d1_133) rfl ((if0 _ _).trans (flt (by decide : ¬ ((0 : Int32) < (0 : Int32)))).1) ?_
          refine XS.aload X109.here hx rfl (hb hby d1_136) rfl rfl ?_
          show Steps _ _ _ (T109.setTop (mkF m 138 (Lq1n2 a1 a2 p3 b2 b5 (kI 1) (kR b41) (kI (p3 - s1)) (kI 0)) [(.ref b5)])) _
          refine XS.iload X109.here hx rfl (hb hby d1_138) rfl ?_
          refine X109.aaload hx (j := (0 : Int32)) (v := (.ref b11)) (by rw [e109]; exact A112.1) (State.isArrayOf_alike hZ.alike A112.2.1) rfl A112.2.2 hin112 hat112 (g := (mkF m 140 (Lq1n2 a1 a2 p3 b2 b5 (kI 1) (kR b41) (kI (p3 - s1)) (kI 0)) [(.int (0 : Int32)), (.ref b5)])) rfl rfl (hb hby d1_140) _ ?_
          refine XS.iload X109.here hx rfl (hb hby d1_141) rfl ?_
          refine X109.baloadBooleans hx (j := (p3 - s1)) (v := (.int (ut0 ((p3 - s1)).toNatClampNeg))) (by rw [e109]; exact A114.1) (State.isArrayOf_alike hZ.alike A114.2.1) A114.2.2 hin114 hat114 (g := (mkF m 143 (Lq1n2 a1 a2 p3 b2 b5 (kI 1) (kR b41) (kI (p3 - s1)) (kI 0)) [(.int (p3 - s1)), (.ref b11)])) rfl rfl (hb hby d1_143) _ ?_
          exact k)
        by_cases hc117 : (ut0 ((p3 - s1)).toNatClampNeg) = (0 : Int32)
        · have hT118 : own_tr ut0 s0 (p3 - s1) false (p3 - s1) := Or.inl ⟨rfl, hc117, rfl⟩
          obtain ⟨T119, h119, k119, X119, e119, E119, A119, st119⟩ := newP X109 hx hZ (hw _ (List.mem_of_getElem? (i := 0) rfl)) e109 (g := (mkF m 173 (Lq1n2 a1 a2 p3 b2 b5 (kI 1) (kR b41) (kI (p3 - s1)) (kI (-1))) [(.int (1 : Int32))])) rfl (hb hby d1_173) rfl (by decide) (cap := 1) (by decide) (by decide) (by decide) (by decide)
          obtain ⟨b119, g119⟩ : ∃ z, z = h109.size := ⟨_, rfl⟩
          rw [← g119] at A119 st119
          have F120 := ((F42.ext E41).wr W109)
          have ne121 : b11 ≠ b119 := Nat.ne_of_lt (Nat.lt_of_lt_of_le F120.lt (Nat.le_of_eq g119.symm))
          have F122 := ((F44.ext E41).wr W109)
          have ne123 : b25 ≠ b119 := Nat.ne_of_lt (Nat.lt_of_lt_of_le F122.lt (Nat.le_of_eq g119.symm))
          have ne124 : a1 ≠ b119 := Nat.ne_of_lt (Nat.lt_of_lt_of_le F111.lt (Nat.le_of_eq g119.symm))
          have F125 := ((F48.ext E41).other W109 ne49)
          have ne126 : a2 ≠ b119 := Nat.ne_of_lt (Nat.lt_of_lt_of_le F125.lt (Nat.le_of_eq g119.symm))
          have ne127 : b5 ≠ b119 := Nat.ne_of_lt (Nat.lt_of_lt_of_le F113.lt (Nat.le_of_eq g119.symm))
          have F128 := ((Lf38_0.ext E41).other W109 ne52)
          have ne129 : b2 ≠ b119 := Nat.ne_of_lt (Nat.lt_of_lt_of_le F128.lt (Nat.le_of_eq g119.symm))
          have ne130 : b41 ≠ b119 := Nat.ne_of_lt (Nat.lt_of_lt_of_le V109.lt (Nat.le_of_eq g119.symm))
          have g_b119 : n0 ≤ b119 := Nat.le_trans (Nat.le_trans Z0 K109.1) (Nat.le_of_eq g119.symm)
          have sz_b119 : h0.size ≤ b119 := Nat.le_trans K109.1 (Nat.le_of_eq g119.symm)
          have K119 : Keep h0 h119 [] := K109.ext E119
          have V_b119 : AV Z h119 b119 .int (1 : Int32) [(.int (0 : Int32))] := AV.new A119 (by decide)
          have F132 := (V109.ext E119)
          obtain ⟨cl131, A131, S131, Nl131, M131⟩ := id F132
          have hin131 : ¬ ((0 : Int32) < 0 ∨ cl131.slots.size ≤ ((0 : Int32)).toNatClampNeg) := AV.inb S131 Nl131 ⟨by decide, by decide⟩
          have hat131 : cl131.slots[((0 : Int32)).toNatClampNeg]? = some (.int (0 : Int32)) := AV.at S131 rfl
          obtain ⟨cl133, A133, S133, Nl133, M133⟩ := id F132
          have hin133 : ¬ ((1 : Int32) < 0 ∨ cl133.slots.size ≤ ((1 : Int32)).toNatClampNeg) := AV.inb S133 Nl133 ⟨by decide, by decide⟩
          have hat133 : cl133.slots[((1 : Int32)).toNatClampNeg]? = some (.int (1 : Int32)) := AV.at S133 rfl
          obtain ⟨cl134, A134, S134, Nl134, M134⟩ := id V_b119
          have hin134 : ¬ ((0 : Int32) < 0 ∨ cl134.slots.size ≤ ((0 : Int32)).toNatClampNeg) := AV.inb S134 Nl134 ⟨by decide, by decide⟩
          obtain ⟨T134, h134, X134, e134, W134, st134⟩ := stI X119 hx hZ e119 A134 (j := (0 : Int32)) hin134 (g := (mkF m 206 #[(kR a1), (kR a2), (kI p3), (kI 2), (kR b2), (kR b5), (kI 1), (kR b41), (kI (p3 - s1)), (kR b119), (kI 1), (kI 1)] [(.int (1 : Int32)), (.int (0 : Int32)), (.ref b119)])) rfl rfl (hb hby d1_206)
          have V134 : AV Z h134 b119 .int (1 : Int32) [(.int (1 : Int32))] := AV.set A134 S134 Nl134 M134 W134
          have K134 : Keep h0 h134 [] := K119.wr W134 (Or.inr sz_b119)
          have N134 := Fr.snoc X134 N109 g_b119
          obtain ⟨fs, hr, hrun, hended, hW, hsame⟩ := X134.leave (v := some (.ref b119)) (fun h => by rw [Bd.returns] at h; cases h) hlk
          refine ⟨_, _, pre116 _ ?_, hrun, hended, _, _, rfl, ?_, ⟨_, rfl⟩, hW, hsame.mono (by decide) (by decide)⟩
          · show Steps _ _ _ (T109.setTop (mkF m 144 (Lq1n2 a1 a2 p3 b2 b5 (kI 1) (kR b41) (kI (p3 - s1)) (kI 0)) [(.int (ut0 ((p3 - s1)).toNatClampNeg))])) _
            refine XS.ifYes X109.here hx rfl (pc0 := 144) (pc' := 165) rfl (hb hby d1_144) rfl ((if0 _ _).trans (teq hc117).1) (by decide) (by decide) ?_
            show Steps _ _ _ (T109.setTop (mkF m 165 (Lq1n2 a1 a2 p3 b2 b5 (kI 1) (kR b41) (kI (p3 - s1)) (kI 0)) [])) _
            refine XS.iinc X109.here hx rfl (hb hby d1_165) rfl (l' := (Lq1n2 a1 a2 p3 b2 b5 (kI 1) (kR b41) (kI (p3 - s1)) (kI (-1)))) rfl ?_
            refine XS.goto X109.here hx rfl (pc0 := 168) (pc' := 131) rfl (hb hby d1_168) (by decide) (by decide) ?_
            refine XS.iload X109.here hx rfl (hb hby d1_131) rfl ?_
            show Steps _ _ _ (T109.setTop (mkF m 133 (Lq1n2 a1 a2 p3 b2 b5 (kI 1) (kR b41) (kI (p3 - s1)) (kI (-1))) [(.int (-1 : Int32))])) _
            refine XS.ifYes X109.here hx rfl (pc0 := 133) (pc' := 171) rfl (hb hby d1_133) rfl ((if0 _ _).trans (tlt (by decide : (-1 : Int32) < (0 : Int32))).1) (by decide) (by decide) ?_
            refine XS.iload X109.here hx rfl (hb hby d1_171) rfl ?_
            refine st119 _ ?_
            refine XS.astore X119.here hx rfl (hb hby d1_175) rfl rfl (l' := (Lq1n2 a1 a2 p3 b2 b5 (kI 1) (kR b41) (kI (p3 - s1)) (kR b119))) rfl ?_
            show Steps _ _ _ (T119.setTop (mkF m 177 (Lq1n2 a1 a2 p3 b2 b5 (kI 1) (kR b41) (kI (p3 - s1)) (kR b119)) [])) _
            refine XS.iconst X119.here hx rfl (hb hby d1_177) ?_
            refine XS.istore X119.here hx rfl (hb hby d1_178) rfl (l' := #[(kR a1), (kR a2), (kI p3), (kI 2), (kR b2), (kR b5), (kI 1), (kR b41), (kI (p3 - s1)), (kR b119), (kI 0), kU]) rfl ?_
            refine XS.iconst X119.here hx rfl (hb hby d1_180) ?_
            show Steps _ _ _ (T119.setTop (mkF m 181 #[(kR a1), (kR a2), (kI p3), (kI 2), (kR b2), (kR b5), (kI 1), (kR b41), (kI (p3 - s1)), (kR b119), (kI 0), kU] [(.int (0 : Int32))])) _
            refine XS.istore X119.here hx rfl (hb hby d1_181) rfl (l' := #[(kR a1), (kR a2), (kI p3), (kI 2), (kR b2), (kR b5), (kI 1), (kR b41), (kI (p3 - s1)), (kR b119), (kI 0), (kI 0)]) rfl ?_
            refine XS.iload X119.here hx rfl (hb hby d1_183) rfl ?_
            refine XS.iloadN X119.here hx rfl (hb hby d1_185) rfl ?_
            show Steps _ _ _ (T119.setTop (mkF m 186 #[(kR a1), (kR a2), (kI p3), (kI 2), (kR b2), (kR b5), (kI 1), (kR b41), (kI (p3 - s1)), (kR b119), (kI 0), (kI 0)] [(.int (2 : Int32)), (.int (0 : Int32))])) _
            refine XS.icmpNo X119.here hx rfl (hb hby d1_186) rfl (tlt (by decide : (0 : Int32) < (2 : Int32))).2.1 ?_
            refine XS.aload X119.here hx rfl (hb hby d1_189) rfl rfl ?_
            refine XS.iload X119.here hx rfl (hb hby d1_191) rfl ?_
            refine X119.baloadBooleans hx (j := (0 : Int32)) (v := (.int (0 : Int32))) (by rw [e119]; exact A131.1) (State.isArrayOf_alike hZ.alike A131.2.1) A131.2.2 hin131 hat131 (g := (mkF m 193 #[(kR a1), (kR a2), (kI p3), (kI 2), (kR b2), (kR b5), (kI 1), (kR b41), (kI (p3 - s1)), (kR b119), (kI 0), (kI 0)] [(.int (0 : Int32)), (.ref b41)])) rfl rfl (hb hby d1_193) _ ?_
            show Steps _ _ _ (T119.setTop (mkF m 194 #[(kR a1), (kR a2), (kI p3), (kI 2), (kR b2), (kR b5), (kI 1), (kR b41), (kI (p3 - s1)), (kR b119), (kI 0), (kI 0)] [(.int (0 : Int32))])) _
            refine XS.ifYes X119.here hx rfl (pc0 := 194) (pc' := 207) rfl (hb hby d1_194) rfl ((if0 _ _).trans (teq (rfl : (0 : Int32) = (0 : Int32))).1) (by decide) (by decide) ?_
            refine XS.iinc X119.here hx rfl (hb hby d1_207) rfl (l' := #[(kR a1), (kR a2), (kI p3), (kI 2), (kR b2), (kR b5), (kI 1), (kR b41), (kI (p3 - s1)), (kR b119), (kI 0), (kI 1)]) rfl ?_
            refine XS.goto X119.here hx rfl (pc0 := 210) (pc' := 183) rfl (hb hby d1_210) (by decide) (by decide) ?_
            show Steps _ _ _ (T119.setTop (mkF m 183 #[(kR a1), (kR a2), (kI p3), (kI 2), (kR b2), (kR b5), (kI 1), (kR b41), (kI (p3 - s1)), (kR b119), (kI 0), (kI 1)] [])) _
            refine XS.iload X119.here hx rfl (hb hby d1_183) rfl ?_
            refine XS.iloadN X119.here hx rfl (hb hby d1_185) rfl ?_
            refine XS.icmpNo X119.here hx rfl (hb hby d1_186) rfl (tlt (by decide : (1 : Int32) < (2 : Int32))).2.1 ?_
            show Steps _ _ _ (T119.setTop (mkF m 189 #[(kR a1), (kR a2), (kI p3), (kI 2), (kR b2), (kR b5), (kI 1), (kR b41), (kI (p3 - s1)), (kR b119), (kI 0), (kI 1)] [])) _
            refine XS.aload X119.here hx rfl (hb hby d1_189) rfl rfl ?_
            refine XS.iload X119.here hx rfl (hb hby d1_191) rfl ?_
            refine X119.baloadBooleans hx (j := (1 : Int32)) (v := (.int (1 : Int32))) (by rw [e119]; exact A133.1) (State.isArrayOf_alike hZ.alike A133.2.1) A133.2.2 hin133 hat133 (g := (mkF m 193 #[(kR a1), (kR a2), (kI p3), (kI 2), (kR b2), (kR b5), (kI 1), (kR b41), (kI (p3 - s1)), (kR b119), (kI 0), (kI 1)] [(.int (1 : Int32)), (.ref b41)])) rfl rfl (hb hby d1_193) _ ?_
            refine XS.ifNo X119.here hx rfl (hb hby d1_194) rfl ((if0 _ _).trans (feq (by decide : ¬ ((1 : Int32) = (0 : Int32)))).1) ?_
            show Steps _ _ _ (T119.setTop (mkF m 197 #[(kR a1), (kR a2), (kI p3), (kI 2), (kR b2), (kR b5), (kI 1), (kR b41), (kI (p3 - s1)), (kR b119), (kI 0), (kI 1)] [])) _
            refine XS.aload X119.here hx rfl (hb hby d1_197) rfl rfl ?_
            refine XS.iload X119.here hx rfl (hb hby d1_199) rfl ?_
            refine XS.iinc X119.here hx rfl (hb hby d1_201) rfl (l' := #[(kR a1), (kR a2), (kI p3), (kI 2), (kR b2), (kR b5), (kI 1), (kR b41), (kI (p3 - s1)), (kR b119), (kI 1), (kI 1)]) rfl ?_
            show Steps _ _ _ (T119.setTop (mkF m 204 #[(kR a1), (kR a2), (kI p3), (kI 2), (kR b2), (kR b5), (kI 1), (kR b41), (kI (p3 - s1)), (kR b119), (kI 1), (kI 1)] [(.int (0 : Int32)), (.ref b119)])) _
            refine XS.iload X119.here hx rfl (hb hby d1_204) rfl ?_
            refine st134 _ ?_
            refine XS.iinc X134.here hx rfl (hb hby d1_207) rfl (l' := #[(kR a1), (kR a2), (kI p3), (kI 2), (kR b2), (kR b5), (kI 1), (kR b41), (kI (p3 - s1)), (kR b119), (kI 1), (kI 2)]) rfl ?_
            refine XS.goto X134.here hx rfl (pc0 := 210) (pc' := 183) rfl (hb hby d1_210) (by decide) (by decide) ?_
            show Steps _ _ _ (T134.setTop (mkF m 183 #[(kR a1), (kR a2), (kI p3), (kI 2), (kR b2), (kR b5), (kI 1), (kR b41), (kI (p3 - s1)), (kR b119), (kI 1), (kI 2)] [])) _
            refine XS.iload X134.here hx rfl (hb hby d1_183) rfl ?_
            refine XS.iloadN X134.here hx rfl (hb hby d1_185) rfl ?_
            refine XS.icmpYes X134.here hx rfl (pc0 := 186) (pc' := 213) rfl (hb hby d1_186) rfl (flt (by decide : ¬ ((2 : Int32) < (2 : Int32)))).2.1 (by decide) (by decide) ?_
            show Steps _ _ _ (T134.setTop (mkF m 213 #[(kR a1), (kR a2), (kI p3), (kI 2), (kR b2), (kR b5), (kI 1), (kR b41), (kI (p3 - s1)), (kR b119), (kI 1), (kI 2)] [])) _
            refine XS.aload X134.here hx rfl (hb hby d1_213) rfl rfl ?_
            show Steps _ _ _ (T134.setTop (mkF m 215 #[(kR a1), (kR a2), (kI p3), (kI 2), (kR b2), (kR b5), (kI 1), (kR b41), (kI (p3 - s1)), (kR b119), (kI 1), (kI 2)] [(.ref b119)])) _
            jvm_step X134.here [X134.here.top, hx, (hb hby d1_215), X134.method', Bd.returns, Value.isRef, FieldType.isReference]
            first | (intro acts; rw [hr _ acts rfl rfl rfl]) | rw [hr _ _ rfl rfl rfl]
            exact Steps.refl _
          · show Q1n2 Z a1 a2 p3 s0 s1 v0 v1 h0 n0 _ T134.heap _
            rw [e134]
            exact ⟨b119, (1 : Int32), [.int (1 : Int32)], rfl, N134, K134, g_b119, sz_b119, V134, (Or.inr (Or.inr (Or.inl ⟨rfl, rfl, own_fin hcap hs0 hs1 ⟨Int.le_refl _, hcap.1⟩ hv0 hv1 own_vr0 hI0 hI1 own_it0 (Or.inl ⟨rfl, rfl, rfl⟩) hT107 hT118⟩)))⟩
        · have hT136 : own_tr ut0 s0 (p3 - s1) true ((p3 - s1) - s0) := Or.inr ⟨rfl, hc117, rfl⟩
          have hr137 : own_rg ((p3 - s1) - s0) p3 := own_rm0 hcap hr108 hs0 hI0 hc117
          obtain ⟨cl138, A138, S138, Nl138, M138⟩ := id V109
          have hin138 : ¬ ((0 : Int32) < 0 ∨ cl138.slots.size ≤ ((0 : Int32)).toNatClampNeg) := AV.inb S138 Nl138 ⟨by decide, by decide⟩
          obtain ⟨T138, h138, X138, e138, W138, st138⟩ := stZ X109 hx hZ e109 A138 (j := (0 : Int32)) hin138 (g := (mkF m 152 (Lq1n2 a1 a2 p3 b2 b5 (kI 1) (kR b41) (kI (p3 - s1)) (kI 0)) [(.int (1 : Int32)), (.int (0 : Int32)), (.ref b41)])) rfl rfl (hb hby d1_152)
          have V138 : AV Z h138 b41 .boolean (2 : Int32) [(.int (1 : Int32)), (.int (1 : Int32))] := AV.set A138 S138 Nl138 M138 W138
          have K138 : Keep h0 h138 [] := K109.wr W138 (Or.inr sz_b41)
          have N138 := Fr.snoc X138 N109 g_b41
          have F140 := (F111.other W138 ne47)
          obtain ⟨cl139, A139, S139, Nl139, M139⟩ := id F140
          have hin139 : ¬ ((0 : Int32) < 0 ∨ cl139.slots.size ≤ ((0 : Int32)).toNatClampNeg) := AV.inb S139 Nl139 ⟨by decide, by decide⟩
          have hat139 : cl139.slots[((0 : Int32)).toNatClampNeg]? = some (.int s0) := AV.at S139 rfl
          obtain ⟨T141, h141, k141, X141, e141, E141, A141, st141⟩ := newP X138 hx hZ (hw _ (List.mem_of_getElem? (i := 0) rfl)) e138 (g := (mkF m 173 (Lq1n2 a1 a2 p3 b2 b5 (kI 2) (kR b41) (kI ((p3 - s1) - s0)) (kI (-1))) [(.int (2 : Int32))])) rfl (hb hby d1_173) rfl (by decide) (cap := 2) (by decide) (by decide) (by decide) (by decide)
          obtain ⟨b141, g141⟩ : ∃ z, z = h138.size := ⟨_, rfl⟩
          rw [← g141] at A141 st141
          have F142 := (((F42.ext E41).wr W109).wr W138)
          have ne143 : b11 ≠ b141 := Nat.ne_of_lt (Nat.lt_of_lt_of_le F142.lt (Nat.le_of_eq g141.symm))
          have F144 := (((F44.ext E41).wr W109).wr W138)
          have ne145 : b25 ≠ b141 := Nat.ne_of_lt (Nat.lt_of_lt_of_le F144.lt (Nat.le_of_eq g141.symm))
          have ne146 : a1 ≠ b141 := Nat.ne_of_lt (Nat.lt_of_lt_of_le F140.lt (Nat.le_of_eq g141.symm))
          have F147 := (((F48.ext E41).other W109 ne49).other W138 ne49)
          have ne148 : a2 ≠ b141 := Nat.ne_of_lt (Nat.lt_of_lt_of_le F147.lt (Nat.le_of_eq g141.symm))
          have F149 := (F113.other W138 ne51)
          have ne150 : b5 ≠ b141 := Nat.ne_of_lt (Nat.lt_of_lt_of_le F149.lt (Nat.le_of_eq g141.symm))
          have F151 := (((Lf38_0.ext E41).other W109 ne52).other W138 ne52)
          have ne152 : b2 ≠ b141 := Nat.ne_of_lt (Nat.lt_of_lt_of_le F151.lt (Nat.le_of_eq g141.symm))
          have ne153 : b41 ≠ b141 := Nat.ne_of_lt (Nat.lt_of_lt_of_le V138.lt (Nat.le_of_eq g141.symm))
          have g_b141 : n0 ≤ b141 := Nat.le_trans (Nat.le_trans Z0 K138.1) (Nat.le_of_eq g141.symm)
          have sz_b141 : h0.size ≤ b141 := Nat.le_trans K138.1 (Nat.le_of_eq g141.symm)
          have K141 : Keep h0 h141 [] := K138.ext E141
          have V_b141 : AV Z h141 b141 .int (2 : Int32) [(.int (0 : Int32)), (.int (0 : Int32))] := AV.new A141 (by decide)
          have F155 := (V138.ext E141)
          obtain ⟨cl154, A154, S154, Nl154, M154⟩ := id F155
          have hin154 : ¬ ((0 : Int32) < 0 ∨ cl154.slots.size ≤ ((0 : Int32)).toNatClampNeg) := AV.inb S154 Nl154 ⟨by decide, by decide⟩
          have hat154 : cl154.slots[((0 : Int32)).toNatClampNeg]? = some (.int (1 : Int32)) := AV.at S154 rfl
          obtain ⟨cl156, A156, S156, Nl156, M156⟩ := id V_b141
          have hin156 : ¬ ((0 : Int32) < 0 ∨ cl156.slots.size ≤ ((0 : Int32)).toNatClampNeg) := AV.inb S156 Nl156 ⟨by decide, by decide⟩
          obtain ⟨T156, h156, X156, e156, W156, st156⟩ := stI X141 hx hZ e141 A156 (j := (0 : Int32)) hin156 (g := (mkF m 206 #[(kR a1), (kR a2), (kI p3), (kI 2), (kR b2), (kR b5), (kI 2), (kR b41), (kI ((p3 - s1) - s0)), (kR b141), (kI 1), (kI 0)] [(.int (0 : Int32)), (.int (0 : Int32)), (.ref b141)])) rfl rfl (hb hby d1_206)
          have V156 : AV Z h156 b141 .int (2 : Int32) [(.int (0 : Int32)), (.int (0 : Int32))] := AV.set A156 S156 Nl156 M156 W156
          have K156 : Keep h0 h156 [] := K141.wr W156 (Or.inr sz_b141)
          have N156 := Fr.snoc X156 N138 g_b141
          have F158 := (F155.other W156 ne153)
          obtain ⟨cl157, A157, S157, Nl157, M157⟩ := id F158
          have hin157 : ¬ ((1 : Int32) < 0 ∨ cl157.slots.size ≤ ((1 : Int32)).toNatClampNeg) := AV.inb S157 Nl157 ⟨by decide, by decide⟩
          have hat157 : cl157.slots[((1 : Int32)).toNatClampNeg]? = some (.int (1 : Int32)) := AV.at S157 rfl
          obtain ⟨cl159, A159, S159, Nl159, M159⟩ := id V156
          have hin159 : ¬ ((1 : Int32) < 0 ∨ cl159.slots.size ≤ ((1 : Int32)).toNatClampNeg) := AV.inb S159 Nl159 ⟨by decide, by decide⟩
          obtain ⟨T159, h159, X159, e159, W159, st159⟩ := stI X156 hx hZ e156 A159 (j := (1 : Int32)) hin159 (g := (mkF m 206 #[(kR a1), (kR a2), (kI p3), (kI 2), (kR b2), (kR b5), (kI 2), (kR b41), (kI ((p3 - s1) - s0)), (kR b141), (kI 2), (kI 1)] [(.int (1 : Int32)), (.int (1 : Int32)), (.ref b141)])) rfl rfl (hb hby d1_206)
          have V159 : AV Z h159 b141 .int (2 : Int32) [(.int (0 : Int32)), (.int (1 : Int32))] := AV.set A159 S159 Nl159 M159 W159
          have K159 : Keep h0 h159 [] := K156.wr W159 (Or.inr sz_b141)
          have N159 := Fr.snoc X159 N156 g_b141
          obtain ⟨fs, hr, hrun, hended, hW, hsame⟩ := X159.leave (v := some (.ref b141)) (fun h => by rw [Bd.returns] at h; cases h) hlk
          refine ⟨_, _, pre116 _ ?_, hrun, hended, _, _, rfl, ?_, ⟨_, rfl⟩, hW, hsame.mono (by decide) (by decide)⟩
          · show Steps _ _ _ (T109.setTop (mkF m 144 (Lq1n2 a1 a2 p3 b2 b5 (kI 1) (kR b41) (kI (p3 - s1)) (kI 0)) [(.int (ut0 ((p3 - s1)).toNatClampNeg))])) _
            refine XS.ifNo X109.here hx rfl (hb hby d1_144) rfl ((if0 _ _).trans (feq hc117).1) ?_
            refine XS.aload X109.here hx rfl (hb hby d1_147) rfl rfl ?_
            show Steps _ _ _ (T109.setTop (mkF m 149 (Lq1n2 a1 a2 p3 b2 b5 (kI 1) (kR b41) (kI (p3 - s1)) (kI 0)) [(.ref b41)])) _
            refine XS.iload X109.here hx rfl (hb hby d1_149) rfl ?_
            refine XS.iconst X109.here hx rfl (hb hby d1_151) ?_
            refine st138 _ ?_
            refine XS.iinc X138.here hx rfl (hb hby d1_153) rfl (l' := (Lq1n2 a1 a2 p3 b2 b5 (kI 2) (kR b41) (kI (p3 - s1)) (kI 0))) rfl ?_
            show Steps _ _ _ (T138.setTop (mkF m 156 (Lq1n2 a1 a2 p3 b2 b5 (kI 2) (kR b41) (kI (p3 - s1)) (kI 0)) [])) _
            refine XS.iload X138.here hx rfl (hb hby d1_156) rfl ?_
            refine XS.aloadN X138.here hx rfl (hb hby d1_158) rfl rfl ?_
            refine XS.iload X138.here hx rfl (hb hby d1_159) rfl ?_
            refine X138.iaload hx (j := (0 : Int32)) (v := (.int s0)) (by rw [e138]; exact A139.1) (State.isArrayOf_alike hZ.alike A139.2.1) A139.2.2 hin139 hat139 (g := (mkF m 161 (Lq1n2 a1 a2 p3 b2 b5 (kI 2) (kR b41) (kI (p3 - s1)) (kI 0)) [(.int (0 : Int32)), (.ref a1), (.int (p3 - s1))])) rfl rfl (hb hby d1_161) _ ?_
            show Steps _ _ _ (T138.setTop (mkF m 162 (Lq1n2 a1 a2 p3 b2 b5 (kI 2) (kR b41) (kI (p3 - s1)) (kI 0)) [(.int s0), (.int (p3 - s1))])) _
            refine XS.isub X138.here hx rfl (hb hby d1_162) rfl ?_
            refine XS.istore X138.here hx rfl (hb hby d1_163) rfl (l' := (Lq1n2 a1 a2 p3 b2 b5 (kI 2) (kR b41) (kI ((p3 - s1) - s0)) (kI 0))) rfl ?_
            refine XS.iinc X138.here hx rfl (hb hby d1_165) rfl (l' := (Lq1n2 a1 a2 p3 b2 b5 (kI 2) (kR b41) (kI ((p3 - s1) - s0)) (kI (-1)))) rfl ?_
            show Steps _ _ _ (T138.setTop (mkF m 168 (Lq1n2 a1 a2 p3 b2 b5 (kI 2) (kR b41) (kI ((p3 - s1) - s0)) (kI (-1))) [])) _
            refine XS.goto X138.here hx rfl (pc0 := 168) (pc' := 131) rfl (hb hby d1_168) (by decide) (by decide) ?_
            refine XS.iload X138.here hx rfl (hb hby d1_131) rfl ?_
            refine XS.ifYes X138.here hx rfl (pc0 := 133) (pc' := 171) rfl (hb hby d1_133) rfl ((if0 _ _).trans (tlt (by decide : (-1 : Int32) < (0 : Int32))).1) (by decide) (by decide) ?_
            show Steps _ _ _ (T138.setTop (mkF m 171 (Lq1n2 a1 a2 p3 b2 b5 (kI 2) (kR b41) (kI ((p3 - s1) - s0)) (kI (-1))) [])) _
            refine XS.iload X138.here hx rfl (hb hby d1_171) rfl ?_
            refine st141 _ ?_
            refine XS.astore X141.here hx rfl (hb hby d1_175) rfl rfl (l' := (Lq1n2 a1 a2 p3 b2 b5 (kI 2) (kR b41) (kI ((p3 - s1) - s0)) (kR b141))) rfl ?_
            refine XS.iconst X141.here hx rfl (hb hby d1_177) ?_
            show Steps _ _ _ (T141.setTop (mkF m 178 (Lq1n2 a1 a2 p3 b2 b5 (kI 2) (kR b41) (kI ((p3 - s1) - s0)) (kR b141)) [(.int (0 : Int32))])) _
            refine XS.istore X141.here hx rfl (hb hby d1_178) rfl (l' := #[(kR a1), (kR a2), (kI p3), (kI 2), (kR b2), (kR b5), (kI 2), (kR b41), (kI ((p3 - s1) - s0)), (kR b141), (kI 0), kU]) rfl ?_
            refine XS.iconst X141.here hx rfl (hb hby d1_180) ?_
            refine XS.istore X141.here hx rfl (hb hby d1_181) rfl (l' := #[(kR a1), (kR a2), (kI p3), (kI 2), (kR b2), (kR b5), (kI 2), (kR b41), (kI ((p3 - s1) - s0)), (kR b141), (kI 0), (kI 0)]) rfl ?_
            show Steps _ _ _ (T141.setTop (mkF m 183 #[(kR a1), (kR a2), (kI p3), (kI 2), (kR b2), (kR b5), (kI 2), (kR b41), (kI ((p3 - s1) - s0)), (kR b141), (kI 0), (kI 0)] [])) _
            refine XS.iload X141.here hx rfl (hb hby d1_183) rfl ?_
            refine XS.iloadN X141.here hx rfl (hb hby d1_185) rfl ?_
            refine XS.icmpNo X141.here hx rfl (hb hby d1_186) rfl (tlt (by decide : (0 : Int32) < (2 : Int32))).2.1 ?_
            show Steps _ _ _ (T141.setTop (mkF m 189 #[(kR a1), (kR a2), (kI p3), (kI 2), (kR b2), (kR b5), (kI 2), (kR b41), (kI ((p3 - s1) - s0)), (kR b141), (kI 0), (kI 0)] [])) _
            refine XS.aload X141.here hx rfl (hb hby d1_189) rfl rfl ?_
            refine XS.iload X141.here hx rfl (hb hby d1_191) rfl ?_
            refine X141.baloadBooleans hx (j := (0 : Int32)) (v := (.int (1 : Int32))) (by rw [e141]; exact A154.1) (State.isArrayOf_alike hZ.alike A154.2.1) A154.2.2 hin154 hat154 (g := (mkF m 193 #[(kR a1), (kR a2), (kI p3), (kI 2), (kR b2), (kR b5), (kI 2), (kR b41), (kI ((p3 - s1) - s0)), (kR b141), (kI 0), (kI 0)] [(.int (0 : Int32)), (.ref b41)])) rfl rfl (hb hby d1_193) _ ?_
            refine XS.ifNo X141.here hx rfl (hb hby d1_194) rfl ((if0 _ _).trans (feq (by decide : ¬ ((1 : Int32) = (0 : Int32)))).1) ?_
            show Steps _ _ _ (T141.setTop (mkF m 197 #[(kR a1), (kR a2), (kI p3), (kI 2), (kR b2), (kR b5), (kI 2), (kR b41), (kI ((p3 - s1) - s0)), (kR b141), (kI 0), (kI 0)] [])) _
            refine XS.aload X141.here hx rfl (hb hby d1_197) rfl rfl ?_
            refine XS.iload X141.here hx rfl (hb hby d1_199) rfl ?_
            refine XS.iinc X141.here hx rfl (hb hby d1_201) rfl (l' := #[(kR a1), (kR a2), (kI p3), (kI 2), (kR b2), (kR b5), (kI 2), (kR b41), (kI ((p3 - s1) - s0)), (kR b141), (kI 1), (kI 0)]) rfl ?_
            show Steps _ _ _ (T141.setTop (mkF m 204 #[(kR a1), (kR a2), (kI p3), (kI 2), (kR b2), (kR b5), (kI 2), (kR b41), (kI ((p3 - s1) - s0)), (kR b141), (kI 1), (kI 0)] [(.int (0 : Int32)), (.ref b141)])) _
            refine XS.iload X141.here hx rfl (hb hby d1_204) rfl ?_
            refine st156 _ ?_
            refine XS.iinc X156.here hx rfl (hb hby d1_207) rfl (l' := #[(kR a1), (kR a2), (kI p3), (kI 2), (kR b2), (kR b5), (kI 2), (kR b41), (kI ((p3 - s1) - s0)), (kR b141), (kI 1), (kI 1)]) rfl ?_
            refine XS.goto X156.here hx rfl (pc0 := 210) (pc' := 183) rfl (hb hby d1_210) (by decide) (by decide) ?_
            show Steps _ _ _ (T156.setTop (mkF m 183 #[(kR a1), (kR a2), (kI p3), (kI 2), (kR b2), (kR b5), (kI 2), (kR b41), (kI ((p3 - s1) - s0)), (kR b141), (kI 1), (kI 1)] [])) _
            refine XS.iload X156.here hx rfl (hb hby d1_183) rfl ?_
            refine XS.iloadN X156.here hx rfl (hb hby d1_185) rfl ?_
            refine XS.icmpNo X156.here hx rfl (hb hby d1_186) rfl (tlt (by decide : (1 : Int32) < (2 : Int32))).2.1 ?_
            show Steps _ _ _ (T156.setTop (mkF m 189 #[(kR a1), (kR a2), (kI p3), (kI 2), (kR b2), (kR b5), (kI 2), (kR b41), (kI ((p3 - s1) - s0)), (kR b141), (kI 1), (kI 1)] [])) _
            refine XS.aload X156.here hx rfl (hb hby d1_189) rfl rfl ?_
            refine XS.iload X156.here hx rfl (hb hby d1_191) rfl ?_
            refine X156.baloadBooleans hx (j := (1 : Int32)) (v := (.int (1 : Int32))) (by rw [e156]; exact A157.1) (State.isArrayOf_alike hZ.alike A157.2.1) A157.2.2 hin157 hat157 (g := (mkF m 193 #[(kR a1), (kR a2), (kI p3), (kI 2), (kR b2), (kR b5), (kI 2), (kR b41), (kI ((p3 - s1) - s0)), (kR b141), (kI 1), (kI 1)] [(.int (1 : Int32)), (.ref b41)])) rfl rfl (hb hby d1_193) _ ?_
            refine XS.ifNo X156.here hx rfl (hb hby d1_194) rfl ((if0 _ _).trans (feq (by decide : ¬ ((1 : Int32) = (0 : Int32)))).1) ?_
            show Steps _ _ _ (T156.setTop (mkF m 197 #[(kR a1), (kR a2), (kI p3), (kI 2), (kR b2), (kR b5), (kI 2), (kR b41), (kI ((p3 - s1) - s0)), (kR b141), (kI 1), (kI 1)] [])) _
            refine XS.aload X156.here hx rfl (hb hby d1_197) rfl rfl ?_
            refine XS.iload X156.here hx rfl (hb hby d1_199) rfl ?_
            refine XS.iinc X156.here hx rfl (hb hby d1_201) rfl (l' := #[(kR a1), (kR a2), (kI p3), (kI 2), (kR b2), (kR b5), (kI 2), (kR b41), (kI ((p3 - s1) - s0)), (kR b141), (kI 2), (kI 1)]) rfl ?_
            show Steps _ _ _ (T156.setTop (mkF m 204 #[(kR a1), (kR a2), (kI p3), (kI 2), (kR b2), (kR b5), (kI 2), (kR b41), (kI ((p3 - s1) - s0)), (kR b141), (kI 2), (kI 1)] [(.int (1 : Int32)), (.ref b141)])) _
            refine XS.iload X156.here hx rfl (hb hby d1_204) rfl ?_
            refine st159 _ ?_
            refine XS.iinc X159.here hx rfl (hb hby d1_207) rfl (l' := #[(kR a1), (kR a2), (kI p3), (kI 2), (kR b2), (kR b5), (kI 2), (kR b41), (kI ((p3 - s1) - s0)), (kR b141), (kI 2), (kI 2)]) rfl ?_
            refine XS.goto X159.here hx rfl (pc0 := 210) (pc' := 183) rfl (hb hby d1_210) (by decide) (by decide) ?_
            show Steps _ _ _ (T159.setTop (mkF m 183 #[(kR a1), (kR a2), (kI p3), (kI 2), (kR b2), (kR b5), (kI 2), (kR b41), (kI ((p3 - s1) - s0)), (kR b141), (kI 2), (kI 2)] [])) _
            refine XS.iload X159.here hx rfl (hb hby d1_183) rfl ?_
            refine XS.iloadN X159.here hx rfl (hb hby d1_185) rfl ?_
            refine XS.icmpYes X159.here hx rfl (pc0 := 186) (pc' := 213) rfl (hb hby d1_186) rfl (flt (by decide : ¬ ((2 : Int32) < (2 : Int32)))).2.1 (by decide) (by decide) ?_
            show Steps _ _ _ (T159.setTop (mkF m 213 #[(kR a1), (kR a2), (kI p3), (kI 2), (kR b2), (kR b5), (kI 2), (kR b41), (kI ((p3 - s1) - s0)), (kR b141), (kI 2), (kI 2)] [])) _
            refine XS.aload X159.here hx rfl (hb hby d1_213) rfl rfl ?_
            show Steps _ _ _ (T159.setTop (mkF m 215 #[(kR a1), (kR a2), (kI p3), (kI 2), (kR b2), (kR b5), (kI 2), (kR b41), (kI ((p3 - s1) - s0)), (kR b141), (kI 2), (kI 2)] [(.ref b141)])) _
            jvm_step X159.here [X159.here.top, hx, (hb hby d1_215), X159.method', Bd.returns, Value.isRef, FieldType.isReference]
            first | (intro acts; rw [hr _ acts rfl rfl rfl]) | rw [hr _ _ rfl rfl rfl]
            exact Steps.refl _
          · show Q1n2 Z a1 a2 p3 s0 s1 v0 v1 h0 n0 _ T159.heap _
            rw [e159]
            exact ⟨b141, (2 : Int32), [.int (0 : Int32), .int (1 : Int32)], rfl, N159, K159, g_b141, sz_b141, V159, (Or.inr (Or.inr (Or.inr ⟨rfl, rfl, own_fin hcap hs0 hs1 ⟨Int.le_refl _, hcap.1⟩ hv0 hv1 own_vr0 hI0 hI1 own_it0 (Or.inl ⟨rfl, rfl, rfl⟩) hT107 hT136⟩)))⟩
    · intro jn38
      have F162 := ((F30.ext E25).other W35 ne9)
      obtain ⟨cl161, A161, S161, Nl161, M161⟩ := id F162
      have hin161 : ¬ ((1 : Int32) < 0 ∨ cl161.slots.size ≤ ((1 : Int32)).toNatClampNeg) := AV.inb S161 Nl161 ⟨by decide, by decide⟩
      have hat161 : cl161.slots[((1 : Int32)).toNatClampNeg]? = some (.long v1) := AV.at S161 rfl
      have pre163 : ∀ t, Steps p.tables e below (T35.setTop (mkF m 41 (Lq1n2 a1 a2 p3 b2 b5 (kI 1) uc0 ux0 uy0) [(.int (lcmpW v1 (0 : Int64)))])) t → Steps p.tables e below (s₁.setTop (entryFrame m #[(.ref a1), (.ref a2), (.int p3)] 12)) t := fun t k => pre39 t (by
        show Steps _ _ _ (T35.setTop (mkF m 35 (Lq1n2 a1 a2 p3 b2 b5 (kI 1) uc0 ux0 uy0) [])) _
        refine XS.aloadN X35.here hx rfl (hb hby d1_35) rfl rfl ?_
        refine XS.iload X35.here hx rfl (hb hby d1_36) rfl ?_
        refine X35.laload hx (j := (1 : Int32)) (v := (.long v1)) (by rw [e35]; exact A161.1) (State.isArrayOf_alike hZ.alike A161.2.1) A161.2.2 hin161 hat161 (g := (mkF m 38 (Lq1n2 a1 a2 p3 b2 b5 (kI 1) uc0 ux0 uy0) [(.int (1 : Int32)), (.ref a2)])) rfl rfl (hb hby d1_38) _ ?_
        show Steps _ _ _ (T35.setTop (mkF m 39 (Lq1n2 a1 a2 p3 b2 b5 (kI 1) uc0 ux0 uy0) [(.long v1)])) _
        refine XS.lconst X35.here hx rfl (hb hby d1_39) ?_
        refine XS.lcmp X35.here hx rfl (hb hby d1_40) rfl ?_
        exact k)
      by_cases hc164 : (0 : Int32) < (lcmpW v1 (0 : Int64))
      · have pre165 : ∀ t, Steps p.tables e below (T35.setTop (mkF m 50 (Lq1n2 a1 a2 p3 b2 b5 (kI 1) (kI p3) ux0 uy0) [])) t → Steps p.tables e below (s₁.setTop (entryFrame m #[(.ref a1), (.ref a2), (.int p3)] 12)) t := fun t k => pre163 t (by
          show Steps _ _ _ (T35.setTop (mkF m 41 (Lq1n2 a1 a2 p3 b2 b5 (kI 1) uc0 ux0 uy0) [(.int (lcmpW v1 (0 : Int64)))])) _
          refine XS.ifYes X35.here hx rfl (pc0 := 41) (pc' := 47) rfl (hb hby d1_41) rfl ((if0 _ _).trans (tlt hc164).2.2.1) (by decide) (by decide) ?_
          show Steps _ _ _ (T35.setTop (mkF m 47 (Lq1n2 a1 a2 p3 b2 b5 (kI 1) uc0 ux0 uy0) [])) _
          refine XS.iloadN X35.here hx rfl (hb hby d1_47) rfl ?_
          refine XS.istore X35.here hx rfl (hb hby d1_48) rfl (l' := (Lq1n2 a1 a2 p3 b2 b5 (kI 1) (kI p3) ux0 uy0)) (by rcases hsl_uc0 with rfl | ⟨_, rfl⟩ | ⟨_, rfl⟩ <;> rfl) ?_
          exact k)
        have F167 := ((Lf22_0.ext E25).other W35 ne10)
        have F168 := (V_b25.other W35 (Ne.symm ne33))
        refine own_loop (α := State × (List Loc) × Heap × Int32 × Slot × Slot × (Nat → Int64) × (Nat → Int32)) (fun a => match a with | (T166, locs166, h166, wc1, wx1, wy1, wb1, wt1) => wc1.toInt ≤ p3.toInt ∧ own_lp p3 ub1 v1 s1 wc1 wb1 wt1 ∧ own_sl2 wx1 wy1 ∧ Stand p l e ({ frames := 0, cells := 6, slots := 54, locals := 0 } : Room) s m #[(.ref a1), (.ref a2), (.int p3)] below meth c T166 locs166 4 50 ∧ T166.heap = h166 ∧ Fr n0 locs166 ∧ Keep h35 h166 [b2, b25] ∧ AJ Z h166 b2 .long (p3 + (1 : Int32)) wb1 ∧ AI Z h166 b25 .boolean (p3 + (1 : Int32)) wt1 ∧ (∀ t, Steps p.tables e below (T166.setTop (mkF m 50 (Lq1n2 a1 a2 p3 b2 b5 (kI 1) (kI wc1) wx1 wy1) [])) t → Steps p.tables e below (s₁.setTop (entryFrame m #[(.ref a1), (.ref a2), (.int p3)] 12)) t)) (fun a => match a with | (T166, locs166, h166, wc1, wx1, wy1, wb1, wt1) => (wc1.toInt + 1).toNat) ?_ (T35, _, _, p3, ux0, uy0, ub1, (fun _ => 0)) ⟨(Int.le_refl _), (own_lp0 _ _ _ _ hcap), hsl_ux0, X35, e35, N35, Keep.refl _ _, F167, F168, pre165⟩
        rintro ⟨T166, locs166, h166, wc1, wx1, wy1, wb1, wt1⟩ ⟨hc1_1, hL1, hsl_wx1, X166, e166, N166, Kl166, Lf166_0, Lf166_1, pre166⟩ ih166
        have K169 : Keep h0 h166 [] := K35.trans Kl166 (allS (Or.inr sz_b2) (allS (Or.inr sz_b25) all0))
        have F171 := (((F28.ext E25).other W35 ne7).keep Kl166 (ninS ne3 (ninS ne29 nin0)))
        obtain ⟨cl170, A170, S170, Nl170, M170⟩ := id F171
        have hin170 : ¬ ((1 : Int32) < 0 ∨ cl170.slots.size ≤ ((1 : Int32)).toNatClampNeg) := AV.inb S170 Nl170 ⟨by decide, by decide⟩
        have hat170 : cl170.slots[((1 : Int32)).toNatClampNeg]? = some (.int s1) := AV.at S170 rfl
        have pre172 : ∀ t, Steps p.tables e below (T166.setTop (mkF m 56 (Lq1n2 a1 a2 p3 b2 b5 (kI 1) (kI wc1) wx1 wy1) [(.int s1), (.int wc1)])) t → Steps p.tables e below (s₁.setTop (entryFrame m #[(.ref a1), (.ref a2), (.int p3)] 12)) t := fun t k => pre166 t (by
          show Steps _ _ _ (T166.setTop (mkF m 50 (Lq1n2 a1 a2 p3 b2 b5 (kI 1) (kI wc1) wx1 wy1) [])) _
          refine XS.iload X166.here hx rfl (hb hby d1_50) rfl ?_
          show Steps _ _ _ (T166.setTop (mkF m 52 (Lq1n2 a1 a2 p3 b2 b5 (kI 1) (kI wc1) wx1 wy1) [(.int wc1)])) _
          refine XS.aloadN X166.here hx rfl (hb hby d1_52) rfl rfl ?_
          refine XS.iload X166.here hx rfl (hb hby d1_53) rfl ?_
          refine X166.iaload hx (j := (1 : Int32)) (v := (.int s1)) (by rw [e166]; exact A170.1) (State.isArrayOf_alike hZ.alike A170.2.1) A170.2.2 hin170 hat170 (g := (mkF m 55 (Lq1n2 a1 a2 p3 b2 b5 (kI 1) (kI wc1) wx1 wy1) [(.int (1 : Int32)), (.ref a1), (.int wc1)])) rfl rfl (hb hby d1_55) _ ?_
          exact k)
        by_cases hc173 : wc1 < s1
        · have pre174 : ∀ t, Steps p.tables e below (T166.setTop (mkF m 109 (Lq1n2 a1 a2 p3 b2 b5 (kI 1) (kI wc1) wx1 wy1) [])) t → Steps p.tables e below (s₁.setTop (entryFrame m #[(.ref a1), (.ref a2), (.int p3)] 12)) t := fun t k => pre172 t (by
            show Steps _ _ _ (T166.setTop (mkF m 56 (Lq1n2 a1 a2 p3 b2 b5 (kI 1) (kI wc1) wx1 wy1) [(.int s1), (.int wc1)])) _
            refine XS.icmpYes X166.here hx rfl (pc0 := 56) (pc' := 109) rfl (hb hby d1_56) rfl (tlt hc173).1 (by decide) (by decide) ?_
            exact k)
          exact jn38 (T166, _, _, .val (.int wc1), wx1, wy1, wb1, wt1) ⟨(own_lpE hs1 hL1 hc173), (Or.inr (Or.inl ⟨_, rfl⟩)), hsl_wx1, X166, e166, N166, (((Keep.refl _ _).trans Kl166 (allS (Or.inl (List.mem_of_getElem? (i := 0) rfl)) (allS (Or.inl (List.mem_of_getElem? (i := 1) rfl)) all0)))), Lf166_0, Lf166_1, fun t k => pre174 t k⟩
        · obtain ⟨cl175, A175, S175, Nl175, M175⟩ := id F171
          have hin175 : ¬ ((1 : Int32) < 0 ∨ cl175.slots.size ≤ ((1 : Int32)).toNatClampNeg) := AV.inb S175 Nl175 ⟨by decide, by decide⟩
          have hat175 : cl175.slots[((1 : Int32)).toNatClampNeg]? = some (.int s1) := AV.at S175 rfl
          obtain ⟨cl176, A176, S176, M176, G176⟩ := id Lf166_0
          have hin176 : ¬ ((wc1 - s1) < 0 ∨ cl176.slots.size ≤ ((wc1 - s1)).toNatClampNeg) := inb_of S176 (own_ixr hcap (own_rgs hcap hs1 hc1_1 hc173))
          have hat176 : cl176.slots[((wc1 - s1)).toNatClampNeg]? = some (.long (wb1 ((wc1 - s1)).toNatClampNeg)) := AJ.at S176 G176 hin176
          have F178 := (F162.keep Kl166 (ninS ne4 (ninS ne31 nin0)))
          obtain ⟨cl177, A177, S177, Nl177, M177⟩ := id F178
          have hin177 : ¬ ((1 : Int32) < 0 ∨ cl177.slots.size ≤ ((1 : Int32)).toNatClampNeg) := AV.inb S177 Nl177 ⟨by decide, by decide⟩
          have hat177 : cl177.slots[((1 : Int32)).toNatClampNeg]? = some (.long v1) := AV.at S177 rfl
          obtain ⟨cl179, A179, S179, M179, G179⟩ := id Lf166_0
          have hin179 : ¬ (wc1 < 0 ∨ cl179.slots.size ≤ (wc1).toNatClampNeg) := inb_of S179 (own_ixr hcap (own_rgc hs1 hc1_1 hc173))
          have hat179 : cl179.slots[(wc1).toNatClampNeg]? = some (.long (wb1 (wc1).toNatClampNeg)) := AJ.at S179 G179 hin179
          have pre180 : ∀ t, Steps p.tables e below (T166.setTop (mkF m 84 (Lq1n2 a1 a2 p3 b2 b5 (kI 1) (kI wc1) (kJ ((wb1 ((wc1 - s1)).toNatClampNeg) + v1)) kD) [(.int (lcmpW ((wb1 ((wc1 - s1)).toNatClampNeg) + v1) (wb1 (wc1).toNatClampNeg)))])) t → Steps p.tables e below (s₁.setTop (entryFrame m #[(.ref a1), (.ref a2), (.int p3)] 12)) t := fun t k => pre172 t (by
            show Steps _ _ _ (T166.setTop (mkF m 56 (Lq1n2 a1 a2 p3 b2 b5 (kI 1) (kI wc1) wx1 wy1) [(.int s1), (.int wc1)])) _
            refine XS.icmpNo X166.here hx rfl (hb hby d1_56) rfl (flt hc173).1 ?_
            refine XS.aload X166.here hx rfl (hb hby d1_59) rfl rfl ?_
            refine XS.iload X166.here hx rfl (hb hby d1_61) rfl ?_
            show Steps _ _ _ (T166.setTop (mkF m 63 (Lq1n2 a1 a2 p3 b2 b5 (kI 1) (kI wc1) wx1 wy1) [(.int wc1), (.ref b2)])) _
            refine XS.aloadN X166.here hx rfl (hb hby d1_63) rfl rfl ?_
            refine XS.iload X166.here hx rfl (hb hby d1_64) rfl ?_
            refine X166.iaload hx (j := (1 : Int32)) (v := (.int s1)) (by rw [e166]; exact A175.1) (State.isArrayOf_alike hZ.alike A175.2.1) A175.2.2 hin175 hat175 (g := (mkF m 66 (Lq1n2 a1 a2 p3 b2 b5 (kI 1) (kI wc1) wx1 wy1) [(.int (1 : Int32)), (.ref a1), (.int wc1), (.ref b2)])) rfl rfl (hb hby d1_66) _ ?_
            refine XS.isub X166.here hx rfl (hb hby d1_67) rfl ?_
            refine X166.laload hx (j := (wc1 - s1)) (v := (.long (wb1 ((wc1 - s1)).toNatClampNeg))) (by rw [e166]; exact A176.1) (State.isArrayOf_alike hZ.alike A176.2.1) A176.2.2 hin176 hat176 (g := (mkF m 68 (Lq1n2 a1 a2 p3 b2 b5 (kI 1) (kI wc1) wx1 wy1) [(.int (wc1 - s1)), (.ref b2)])) rfl rfl (hb hby d1_68) _ ?_
            show Steps _ _ _ (T166.setTop (mkF m 69 (Lq1n2 a1 a2 p3 b2 b5 (kI 1) (kI wc1) wx1 wy1) [(.long (wb1 ((wc1 - s1)).toNatClampNeg))])) _
            refine XS.aloadN X166.here hx rfl (hb hby d1_69) rfl rfl ?_
            refine XS.iload X166.here hx rfl (hb hby d1_70) rfl ?_
            refine X166.laload hx (j := (1 : Int32)) (v := (.long v1)) (by rw [e166]; exact A177.1) (State.isArrayOf_alike hZ.alike A177.2.1) A177.2.2 hin177 hat177 (g := (mkF m 72 (Lq1n2 a1 a2 p3 b2 b5 (kI 1) (kI wc1) wx1 wy1) [(.int (1 : Int32)), (.ref a2), (.long (wb1 ((wc1 - s1)).toNatClampNeg))])) rfl rfl (hb hby d1_72) _ ?_
            refine XS.ladd X166.here hx rfl (hb hby d1_73) rfl ?_
            show Steps _ _ _ (T166.setTop (mkF m 74 (Lq1n2 a1 a2 p3 b2 b5 (kI 1) (kI wc1) wx1 wy1) [(.long ((wb1 ((wc1 - s1)).toNatClampNeg) + v1))])) _
            refine XS.lstore X166.here hx rfl (hb hby d1_74) rfl (l' := (Lq1n2 a1 a2 p3 b2 b5 (kI 1) (kI wc1) (kJ ((wb1 ((wc1 - s1)).toNatClampNeg) + v1)) kD)) (by rcases hsl_wx1 with ⟨rfl, rfl⟩ | ⟨_, rfl, rfl⟩ <;> rfl) ?_
            refine XS.lload X166.here hx rfl (hb hby d1_76) rfl ?_
            refine XS.aload X166.here hx rfl (hb hby d1_78) rfl rfl ?_
            show Steps _ _ _ (T166.setTop (mkF m 80 (Lq1n2 a1 a2 p3 b2 b5 (kI 1) (kI wc1) (kJ ((wb1 ((wc1 - s1)).toNatClampNeg) + v1)) kD) [(.ref b2), (.long ((wb1 ((wc1 - s1)).toNatClampNeg) + v1))])) _
            refine XS.iload X166.here hx rfl (hb hby d1_80) rfl ?_
            refine X166.laload hx (j := wc1) (v := (.long (wb1 (wc1).toNatClampNeg))) (by rw [e166]; exact A179.1) (State.isArrayOf_alike hZ.alike A179.2.1) A179.2.2 hin179 hat179 (g := (mkF m 82 (Lq1n2 a1 a2 p3 b2 b5 (kI 1) (kI wc1) (kJ ((wb1 ((wc1 - s1)).toNatClampNeg) + v1)) kD) [(.int wc1), (.ref b2), (.long ((wb1 ((wc1 - s1)).toNatClampNeg) + v1))])) rfl rfl (hb hby d1_82) _ ?_
            refine XS.lcmp X166.here hx rfl (hb hby d1_83) rfl ?_
            exact k)
          by_cases hc181 : (0 : Int32) < (lcmpW ((wb1 ((wc1 - s1)).toNatClampNeg) + v1) (wb1 (wc1).toNatClampNeg))
          · obtain ⟨cl182, A182, S182, M182, G182⟩ := id Lf166_0
            have hin182 : ¬ (wc1 < 0 ∨ cl182.slots.size ≤ (wc1).toNatClampNeg) := inb_of S182 (own_ixr hcap (own_rgc hs1 hc1_1 hc173))
            obtain ⟨T182, h182, X182, e182, W182, st182⟩ := stJ X166 hx hZ e166 A182 (j := wc1) hin182 (g := (mkF m 93 (Lq1n2 a1 a2 p3 b2 b5 (kI 1) (kI wc1) (kJ ((wb1 ((wc1 - s1)).toNatClampNeg) + v1)) kD) [(.long ((wb1 ((wc1 - s1)).toNatClampNeg) + v1)), (.int wc1), (.ref b2)])) rfl rfl (hb hby d1_93)
            have V182 : AJ Z h182 b2 .long (p3 + (1 : Int32)) (fun i => if i = (wc1).toNatClampNeg then ((wb1 ((wc1 - s1)).toNatClampNeg) + v1) else wb1 i) := AJ.set A182 S182 M182 G182 W182
            have K182 : Keep h0 h182 [] := K169.wr W182 (Or.inr sz_b2)
            have N182 := Fr.snoc X182 N166 g_b2
            have F184 := ((V35.keep Kl166 (ninS (Ne.symm ne10) (ninS ne33 nin0))).other W182 (Ne.symm ne10))
            obtain ⟨cl183, A183, S183, Nl183, M183⟩ := id F184
            have hin183 : ¬ ((1 : Int32) < 0 ∨ cl183.slots.size ≤ ((1 : Int32)).toNatClampNeg) := AV.inb S183 Nl183 ⟨by decide, by decide⟩
            have hat183 : cl183.slots[((1 : Int32)).toNatClampNeg]? = some (.ref b25) := AV.at S183 rfl
            have F186 := (Lf166_1.other W182 (Ne.symm ne34))
            obtain ⟨cl185, A185, S185, M185, G185⟩ := id F186
            have hin185 : ¬ (wc1 < 0 ∨ cl185.slots.size ≤ (wc1).toNatClampNeg) := inb_of S185 (own_ixr hcap (own_rgc hs1 hc1_1 hc173))
            obtain ⟨T185, h185, X185, e185, W185, st185⟩ := stZ X182 hx hZ e182 A185 (j := wc1) hin185 (g := (mkF m 102 (Lq1n2 a1 a2 p3 b2 b5 (kI 1) (kI wc1) (kJ ((wb1 ((wc1 - s1)).toNatClampNeg) + v1)) kD) [(.int (1 : Int32)), (.int wc1), (.ref b25)])) rfl rfl (hb hby d1_102)
            have V185 : AI Z h185 b25 .boolean (p3 + (1 : Int32)) (fun i => if i = (wc1).toNatClampNeg then (1 : Int32) else wt1 i) := AI.set A185 S185 M185 G185 W185
            have K185 : Keep h0 h185 [] := K182.wr W185 (Or.inr sz_b25)
            have N185 := Fr.snoc X185 N182 g_b25
            have pre187 : ∀ t, Steps p.tables e below (T185.setTop (mkF m 50 (Lq1n2 a1 a2 p3 b2 b5 (kI 1) (kI (wc1 + (-1 : Int32))) (kJ ((wb1 ((wc1 - s1)).toNatClampNeg) + v1)) kD) [])) t → Steps p.tables e below (s₁.setTop (entryFrame m #[(.ref a1), (.ref a2), (.int p3)] 12)) t := fun t k => pre180 t (by
              show Steps _ _ _ (T166.setTop (mkF m 84 (Lq1n2 a1 a2 p3 b2 b5 (kI 1) (kI wc1) (kJ ((wb1 ((wc1 - s1)).toNatClampNeg) + v1)) kD) [(.int (lcmpW ((wb1 ((wc1 - s1)).toNatClampNeg) + v1) (wb1 (wc1).toNatClampNeg)))])) _
              refine XS.ifNo X166.here hx rfl (hb hby d1_84) rfl ((if0 _ _).trans (tlt hc181).2.2.2) ?_
              show Steps _ _ _ (T166.setTop (mkF m 87 (Lq1n2 a1 a2 p3 b2 b5 (kI 1) (kI wc1) (kJ ((wb1 ((wc1 - s1)).toNatClampNeg) + v1)) kD) [])) _
              refine XS.aload X166.here hx rfl (hb hby d1_87) rfl rfl ?_
              refine XS.iload X166.here hx rfl (hb hby d1_89) rfl ?_
              refine XS.lload X166.here hx rfl (hb hby d1_91) rfl ?_
              refine st182 _ ?_
              show Steps _ _ _ (T182.setTop (mkF m 94 (Lq1n2 a1 a2 p3 b2 b5 (kI 1) (kI wc1) (kJ ((wb1 ((wc1 - s1)).toNatClampNeg) + v1)) kD) [])) _
              refine XS.aload X182.here hx rfl (hb hby d1_94) rfl rfl ?_
              refine XS.iload X182.here hx rfl (hb hby d1_96) rfl ?_
              refine X182.aaload hx (j := (1 : Int32)) (v := (.ref b25)) (by rw [e182]; exact A183.1) (State.isArrayOf_alike hZ.alike A183.2.1) rfl A183.2.2 hin183 hat183 (g := (mkF m 98 (Lq1n2 a1 a2 p3 b2 b5 (kI 1) (kI wc1) (kJ ((wb1 ((wc1 - s1)).toNatClampNeg) + v1)) kD) [(.int (1 : Int32)), (.ref b5)])) rfl rfl (hb hby d1_98) _ ?_
              refine XS.iload X182.here hx rfl (hb hby d1_99) rfl ?_
              show Steps _ _ _ (T182.setTop (mkF m 101 (Lq1n2 a1 a2 p3 b2 b5 (kI 1) (kI wc1) (kJ ((wb1 ((wc1 - s1)).toNatClampNeg) + v1)) kD) [(.int wc1), (.ref b25)])) _
              refine XS.iconst X182.here hx rfl (hb hby d1_101) ?_
              refine st185 _ ?_
              refine XS.iinc X185.here hx rfl (hb hby d1_103) rfl (l' := (Lq1n2 a1 a2 p3 b2 b5 (kI 1) (kI (wc1 + (-1 : Int32))) (kJ ((wb1 ((wc1 - s1)).toNatClampNeg) + v1)) kD)) rfl ?_
              refine XS.goto X185.here hx rfl (pc0 := 106) (pc' := 50) rfl (hb hby d1_106) (by decide) (by decide) ?_
              exact k)
            have F188 := (V182.other W185 ne34)
            exact ih166 (T185, _, _, (wc1 + (-1 : Int32)), .val (.long ((wb1 ((wc1 - s1)).toNatClampNeg) + v1)), .second, (fun i => if i = (wc1).toNatClampNeg then ((wb1 ((wc1 - s1)).toNatClampNeg) + v1) else wb1 i), (fun i => if i = (wc1).toNatClampNeg then (1 : Int32) else wt1 i)) ⟨(own_mle hcap hs1 hc1_1 hc173), (own_stY hcap hs1 hc1_1 hc173 (own_gt.mp hc164) hL1 (own_gt.mp hc181)), (Or.inr ⟨_, rfl, rfl⟩), X185, e185, N185, (((Kl166.wr W182 (Or.inl (List.mem_of_getElem? (i := 0) rfl))).wr W185 (Or.inl (List.mem_of_getElem? (i := 1) rfl)))), F188, V185, fun t k => pre187 t k⟩ (own_mlt hcap hs1 hc1_1 hc173)
          · have pre189 : ∀ t, Steps p.tables e below (T166.setTop (mkF m 50 (Lq1n2 a1 a2 p3 b2 b5 (kI 1) (kI (wc1 + (-1 : Int32))) (kJ ((wb1 ((wc1 - s1)).toNatClampNeg) + v1)) kD) [])) t → Steps p.tables e below (s₁.setTop (entryFrame m #[(.ref a1), (.ref a2), (.int p3)] 12)) t := fun t k => pre180 t (by
              show Steps _ _ _ (T166.setTop (mkF m 84 (Lq1n2 a1 a2 p3 b2 b5 (kI 1) (kI wc1) (kJ ((wb1 ((wc1 - s1)).toNatClampNeg) + v1)) kD) [(.int (lcmpW ((wb1 ((wc1 - s1)).toNatClampNeg) + v1) (wb1 (wc1).toNatClampNeg)))])) _
              refine XS.ifYes X166.here hx rfl (pc0 := 84) (pc' := 103) rfl (hb hby d1_84) rfl ((if0 _ _).trans (flt hc181).2.2.2) (by decide) (by decide) ?_
              refine XS.iinc X166.here hx rfl (hb hby d1_103) rfl (l' := (Lq1n2 a1 a2 p3 b2 b5 (kI 1) (kI (wc1 + (-1 : Int32))) (kJ ((wb1 ((wc1 - s1)).toNatClampNeg) + v1)) kD)) rfl ?_
              refine XS.goto X166.here hx rfl (pc0 := 106) (pc' := 50) rfl (hb hby d1_106) (by decide) (by decide) ?_
              exact k)
            exact ih166 (T166, _, _, (wc1 + (-1 : Int32)), .val (.long ((wb1 ((wc1 - s1)).toNatClampNeg) + v1)), .second, wb1, wt1) ⟨(own_mle hcap hs1 hc1_1 hc173), (own_stN hcap hs1 hc1_1 hc173 hL1 (fun q => hc181 (own_gt.mpr q))), (Or.inr ⟨_, rfl, rfl⟩), X166, e166, N166, (Kl166), Lf166_0, Lf166_1, fun t k => pre189 t k⟩ (own_mlt hcap hs1 hc1_1 hc173)
      · have pre190 : ∀ t, Steps p.tables e below (T35.setTop (mkF m 109 (Lq1n2 a1 a2 p3 b2 b5 (kI 1) uc0 ux0 uy0) [])) t → Steps p.tables e below (s₁.setTop (entryFrame m #[(.ref a1), (.ref a2), (.int p3)] 12)) t := fun t k => pre163 t (by
          show Steps _ _ _ (T35.setTop (mkF m 41 (Lq1n2 a1 a2 p3 b2 b5 (kI 1) uc0 ux0 uy0) [(.int (lcmpW v1 (0 : Int64)))])) _
          refine XS.ifNo X35.here hx rfl (hb hby d1_41) rfl ((if0 _ _).trans (flt hc164).2.2.1) ?_
          refine XS.goto X35.here hx rfl (pc0 := 44) (pc' := 109) rfl (hb hby d1_44) (by decide) (by decide) ?_
          exact k)
        have F191 := ((Lf22_0.ext E25).other W35 ne10)
        have F192 := (V_b25.other W35 (Ne.symm ne33))
        exact jn38 (T35, _, _, uc0, ux0, uy0, ub1, (fun _ => 0)) ⟨(own_itn (fun q => hc164 (own_gt.mpr q))), hsl_uc0, hsl_ux0, X35, e35, N35, ((Keep.refl _ _)), F191, F192, fun t k => pre190 t k⟩
  · intro jn22
    have F194 := ((F14.ext E11).other W19 ne9)
    obtain ⟨cl193, A193, S193, Nl193, M193⟩ := id F194
    have hin193 : ¬ ((0 : Int32) < 0 ∨ cl193.slots.size ≤ ((0 : Int32)).toNatClampNeg) := AV.inb S193 Nl193 ⟨by decide, by decide⟩
    have hat193 : cl193.slots[((0 : Int32)).toNatClampNeg]? = some (.long v0) := AV.at S193 rfl
    have pre195 : ∀ t, Steps p.tables e below (T19.setTop (mkF m 41 (Lq1n2 a1 a2 p3 b2 b5 (kI 0) kU kU kU) [(.int (lcmpW v0 (0 : Int64)))])) t → Steps p.tables e below (s₁.setTop (entryFrame m #[(.ref a1), (.ref a2), (.int p3)] 12)) t := fun t k => pre23 t (by
      show Steps _ _ _ (T19.setTop (mkF m 35 (Lq1n2 a1 a2 p3 b2 b5 (kI 0) kU kU kU) [])) _
      refine XS.aloadN X19.here hx rfl (hb hby d1_35) rfl rfl ?_
      show Steps _ _ _ (T19.setTop (mkF m 36 (Lq1n2 a1 a2 p3 b2 b5 (kI 0) kU kU kU) [(.ref a2)])) _
      refine XS.iload X19.here hx rfl (hb hby d1_36) rfl ?_
      refine X19.laload hx (j := (0 : Int32)) (v := (.long v0)) (by rw [e19]; exact A193.1) (State.isArrayOf_alike hZ.alike A193.2.1) A193.2.2 hin193 hat193 (g := (mkF m 38 (Lq1n2 a1 a2 p3 b2 b5 (kI 0) kU kU kU) [(.int (0 : Int32)), (.ref a2)])) rfl rfl (hb hby d1_38) _ ?_
      refine XS.lconst X19.here hx rfl (hb hby d1_39) ?_
      refine XS.lcmp X19.here hx rfl (hb hby d1_40) rfl ?_
      exact k)
    by_cases hc196 : (0 : Int32) < (lcmpW v0 (0 : Int64))
    · have pre197 : ∀ t, Steps p.tables e below (T19.setTop (mkF m 50 (Lq1n2 a1 a2 p3 b2 b5 (kI 0) (kI p3) kU kU) [])) t → Steps p.tables e below (s₁.setTop (entryFrame m #[(.ref a1), (.ref a2), (.int p3)] 12)) t := fun t k => pre195 t (by
        show Steps _ _ _ (T19.setTop (mkF m 41 (Lq1n2 a1 a2 p3 b2 b5 (kI 0) kU kU kU) [(.int (lcmpW v0 (0 : Int64)))])) _
        refine XS.ifYes X19.here hx rfl (pc0 := 41) (pc' := 47) rfl (hb hby d1_41) rfl ((if0 _ _).trans (tlt hc196).2.2.1) (by decide) (by decide) ?_
        refine XS.iloadN X19.here hx rfl (hb hby d1_47) rfl ?_
        refine XS.istore X19.here hx rfl (hb hby d1_48) rfl (l' := (Lq1n2 a1 a2 p3 b2 b5 (kI 0) (kI p3) kU kU)) rfl ?_
        exact k)
      have F199 := ((F16.ext E11).other W19 ne10)
      have F200 := (V_b11.other W19 (Ne.symm ne18))
      refine own_loop (α := State × (List Loc) × Heap × Int32 × Slot × Slot × (Nat → Int64) × (Nat → Int32)) (fun a => match a with | (T198, locs198, h198, wc0, wx0, wy0, wb0, wt0) => wc0.toInt ≤ p3.toInt ∧ own_lp p3 (fun _ => 0) v0 s0 wc0 wb0 wt0 ∧ own_sl2 wx0 wy0 ∧ Stand p l e ({ frames := 0, cells := 6, slots := 54, locals := 0 } : Room) s m #[(.ref a1), (.ref a2), (.int p3)] below meth c T198 locs198 3 34 ∧ T198.heap = h198 ∧ Fr n0 locs198 ∧ Keep h19 h198 [b2, b11] ∧ AJ Z h198 b2 .long (p3 + (1 : Int32)) wb0 ∧ AI Z h198 b11 .boolean (p3 + (1 : Int32)) wt0 ∧ (∀ t, Steps p.tables e below (T198.setTop (mkF m 50 (Lq1n2 a1 a2 p3 b2 b5 (kI 0) (kI wc0) wx0 wy0) [])) t → Steps p.tables e below (s₁.setTop (entryFrame m #[(.ref a1), (.ref a2), (.int p3)] 12)) t)) (fun a => match a with | (T198, locs198, h198, wc0, wx0, wy0, wb0, wt0) => (wc0.toInt + 1).toNat) ?_ (T19, _, _, p3, .unset, .unset, (fun _ => 0), (fun _ => 0)) ⟨(Int.le_refl _), (own_lp0 _ _ _ _ hcap), (Or.inl ⟨rfl, rfl⟩), X19, e19, N19, Keep.refl _ _, F199, F200, pre197⟩
      rintro ⟨T198, locs198, h198, wc0, wx0, wy0, wb0, wt0⟩ ⟨hc1_0, hL0, hsl_wx0, X198, e198, N198, Kl198, Lf198_0, Lf198_1, pre198⟩ ih198
      have K201 : Keep h0 h198 [] := K19.trans Kl198 (allS (Or.inr sz_b2) (allS (Or.inr sz_b11) all0))
      have F203 := (((F12.ext E11).other W19 ne7).keep Kl198 (ninS ne3 (ninS ne13 nin0)))
      obtain ⟨cl202, A202, S202, Nl202, M202⟩ := id F203
      have hin202 : ¬ ((0 : Int32) < 0 ∨ cl202.slots.size ≤ ((0 : Int32)).toNatClampNeg) := AV.inb S202 Nl202 ⟨by decide, by decide⟩
      have hat202 : cl202.slots[((0 : Int32)).toNatClampNeg]? = some (.int s0) := AV.at S202 rfl
      have pre204 : ∀ t, Steps p.tables e below (T198.setTop (mkF m 56 (Lq1n2 a1 a2 p3 b2 b5 (kI 0) (kI wc0) wx0 wy0) [(.int s0), (.int wc0)])) t → Steps p.tables e below (s₁.setTop (entryFrame m #[(.ref a1), (.ref a2), (.int p3)] 12)) t := fun t k => pre198 t (by
        show Steps _ _ _ (T198.setTop (mkF m 50 (Lq1n2 a1 a2 p3 b2 b5 (kI 0) (kI wc0) wx0 wy0) [])) _
        refine XS.iload X198.here hx rfl (hb hby d1_50) rfl ?_
        refine XS.aloadN X198.here hx rfl (hb hby d1_52) rfl rfl ?_
        refine XS.iload X198.here hx rfl (hb hby d1_53) rfl ?_
        refine X198.iaload hx (j := (0 : Int32)) (v := (.int s0)) (by rw [e198]; exact A202.1) (State.isArrayOf_alike hZ.alike A202.2.1) A202.2.2 hin202 hat202 (g := (mkF m 55 (Lq1n2 a1 a2 p3 b2 b5 (kI 0) (kI wc0) wx0 wy0) [(.int (0 : Int32)), (.ref a1), (.int wc0)])) rfl rfl (hb hby d1_55) _ ?_
        exact k)
      by_cases hc205 : wc0 < s0
      · have pre206 : ∀ t, Steps p.tables e below (T198.setTop (mkF m 109 (Lq1n2 a1 a2 p3 b2 b5 (kI 0) (kI wc0) wx0 wy0) [])) t → Steps p.tables e below (s₁.setTop (entryFrame m #[(.ref a1), (.ref a2), (.int p3)] 12)) t := fun t k => pre204 t (by
          show Steps _ _ _ (T198.setTop (mkF m 56 (Lq1n2 a1 a2 p3 b2 b5 (kI 0) (kI wc0) wx0 wy0) [(.int s0), (.int wc0)])) _
          refine XS.icmpYes X198.here hx rfl (pc0 := 56) (pc' := 109) rfl (hb hby d1_56) rfl (tlt hc205).1 (by decide) (by decide) ?_
          exact k)
        exact jn22 (T198, _, _, .val (.int wc0), wx0, wy0, wb0, wt0) ⟨(own_lpE hs0 hL0 hc205), (Or.inr (Or.inl ⟨_, rfl⟩)), hsl_wx0, X198, e198, N198, (((Keep.refl _ _).trans Kl198 (allS (Or.inl (List.mem_of_getElem? (i := 0) rfl)) (allS (Or.inl (List.mem_of_getElem? (i := 1) rfl)) all0)))), Lf198_0, Lf198_1, fun t k => pre206 t k⟩
      · obtain ⟨cl207, A207, S207, Nl207, M207⟩ := id F203
        have hin207 : ¬ ((0 : Int32) < 0 ∨ cl207.slots.size ≤ ((0 : Int32)).toNatClampNeg) := AV.inb S207 Nl207 ⟨by decide, by decide⟩
        have hat207 : cl207.slots[((0 : Int32)).toNatClampNeg]? = some (.int s0) := AV.at S207 rfl
        obtain ⟨cl208, A208, S208, M208, G208⟩ := id Lf198_0
        have hin208 : ¬ ((wc0 - s0) < 0 ∨ cl208.slots.size ≤ ((wc0 - s0)).toNatClampNeg) := inb_of S208 (own_ixr hcap (own_rgs hcap hs0 hc1_0 hc205))
        have hat208 : cl208.slots[((wc0 - s0)).toNatClampNeg]? = some (.long (wb0 ((wc0 - s0)).toNatClampNeg)) := AJ.at S208 G208 hin208
        have F210 := (F194.keep Kl198 (ninS ne4 (ninS ne15 nin0)))
        obtain ⟨cl209, A209, S209, Nl209, M209⟩ := id F210
        have hin209 : ¬ ((0 : Int32) < 0 ∨ cl209.slots.size ≤ ((0 : Int32)).toNatClampNeg) := AV.inb S209 Nl209 ⟨by decide, by decide⟩
        have hat209 : cl209.slots[((0 : Int32)).toNatClampNeg]? = some (.long v0) := AV.at S209 rfl
        obtain ⟨cl211, A211, S211, M211, G211⟩ := id Lf198_0
        have hin211 : ¬ (wc0 < 0 ∨ cl211.slots.size ≤ (wc0).toNatClampNeg) := inb_of S211 (own_ixr hcap (own_rgc hs0 hc1_0 hc205))
        have hat211 : cl211.slots[(wc0).toNatClampNeg]? = some (.long (wb0 (wc0).toNatClampNeg)) := AJ.at S211 G211 hin211
        have pre212 : ∀ t, Steps p.tables e below (T198.setTop (mkF m 84 (Lq1n2 a1 a2 p3 b2 b5 (kI 0) (kI wc0) (kJ ((wb0 ((wc0 - s0)).toNatClampNeg) + v0)) kD) [(.int (lcmpW ((wb0 ((wc0 - s0)).toNatClampNeg) + v0) (wb0 (wc0).toNatClampNeg)))])) t → Steps p.tables e below (s₁.setTop (entryFrame m #[(.ref a1), (.ref a2), (.int p3)] 12)) t := fun t k => pre204 t (by
          show Steps _ _ _ (T198.setTop (mkF m 56 (Lq1n2 a1 a2 p3 b2 b5 (kI 0) (kI wc0) wx0 wy0) [(.int s0), (.int wc0)])) _
          refine XS.icmpNo X198.here hx rfl (hb hby d1_56) rfl (flt hc205).1 ?_
          refine XS.aload X198.here hx rfl (hb hby d1_59) rfl rfl ?_
          show Steps _ _ _ (T198.setTop (mkF m 61 (Lq1n2 a1 a2 p3 b2 b5 (kI 0) (kI wc0) wx0 wy0) [(.ref b2)])) _
          refine XS.iload X198.here hx rfl (hb hby d1_61) rfl ?_
          refine XS.aloadN X198.here hx rfl (hb hby d1_63) rfl rfl ?_
          refine XS.iload X198.here hx rfl (hb hby d1_64) rfl ?_
          refine X198.iaload hx (j := (0 : Int32)) (v := (.int s0)) (by rw [e198]; exact A207.1) (State.isArrayOf_alike hZ.alike A207.2.1) A207.2.2 hin207 hat207 (g := (mkF m 66 (Lq1n2 a1 a2 p3 b2 b5 (kI 0) (kI wc0) wx0 wy0) [(.int (0 : Int32)), (.ref a1), (.int wc0), (.ref b2)])) rfl rfl (hb hby d1_66) _ ?_
          show Steps _ _ _ (T198.setTop (mkF m 67 (Lq1n2 a1 a2 p3 b2 b5 (kI 0) (kI wc0) wx0 wy0) [(.int s0), (.int wc0), (.ref b2)])) _
          refine XS.isub X198.here hx rfl (hb hby d1_67) rfl ?_
          refine X198.laload hx (j := (wc0 - s0)) (v := (.long (wb0 ((wc0 - s0)).toNatClampNeg))) (by rw [e198]; exact A208.1) (State.isArrayOf_alike hZ.alike A208.2.1) A208.2.2 hin208 hat208 (g := (mkF m 68 (Lq1n2 a1 a2 p3 b2 b5 (kI 0) (kI wc0) wx0 wy0) [(.int (wc0 - s0)), (.ref b2)])) rfl rfl (hb hby d1_68) _ ?_
          refine XS.aloadN X198.here hx rfl (hb hby d1_69) rfl rfl ?_
          refine XS.iload X198.here hx rfl (hb hby d1_70) rfl ?_
          refine X198.laload hx (j := (0 : Int32)) (v := (.long v0)) (by rw [e198]; exact A209.1) (State.isArrayOf_alike hZ.alike A209.2.1) A209.2.2 hin209 hat209 (g := (mkF m 72 (Lq1n2 a1 a2 p3 b2 b5 (kI 0) (kI wc0) wx0 wy0) [(.int (0 : Int32)), (.ref a2), (.long (wb0 ((wc0 - s0)).toNatClampNeg))])) rfl rfl (hb hby d1_72) _ ?_
          show Steps _ _ _ (T198.setTop (mkF m 73 (Lq1n2 a1 a2 p3 b2 b5 (kI 0) (kI wc0) wx0 wy0) [(.long v0), (.long (wb0 ((wc0 - s0)).toNatClampNeg))])) _
          refine XS.ladd X198.here hx rfl (hb hby d1_73) rfl ?_
          refine XS.lstore X198.here hx rfl (hb hby d1_74) rfl (l' := (Lq1n2 a1 a2 p3 b2 b5 (kI 0) (kI wc0) (kJ ((wb0 ((wc0 - s0)).toNatClampNeg) + v0)) kD)) (by rcases hsl_wx0 with ⟨rfl, rfl⟩ | ⟨_, rfl, rfl⟩ <;> rfl) ?_
          refine XS.lload X198.here hx rfl (hb hby d1_76) rfl ?_
          show Steps _ _ _ (T198.setTop (mkF m 78 (Lq1n2 a1 a2 p3 b2 b5 (kI 0) (kI wc0) (kJ ((wb0 ((wc0 - s0)).toNatClampNeg) + v0)) kD) [(.long ((wb0 ((wc0 - s0)).toNatClampNeg) + v0))])) _
          refine XS.aload X198.here hx rfl (hb hby d1_78) rfl rfl ?_
          refine XS.iload X198.here hx rfl (hb hby d1_80) rfl ?_
          refine X198.laload hx (j := wc0) (v := (.long (wb0 (wc0).toNatClampNeg))) (by rw [e198]; exact A211.1) (State.isArrayOf_alike hZ.alike A211.2.1) A211.2.2 hin211 hat211 (g := (mkF m 82 (Lq1n2 a1 a2 p3 b2 b5 (kI 0) (kI wc0) (kJ ((wb0 ((wc0 - s0)).toNatClampNeg) + v0)) kD) [(.int wc0), (.ref b2), (.long ((wb0 ((wc0 - s0)).toNatClampNeg) + v0))])) rfl rfl (hb hby d1_82) _ ?_
          refine XS.lcmp X198.here hx rfl (hb hby d1_83) rfl ?_
          exact k)
        by_cases hc213 : (0 : Int32) < (lcmpW ((wb0 ((wc0 - s0)).toNatClampNeg) + v0) (wb0 (wc0).toNatClampNeg))
        · obtain ⟨cl214, A214, S214, M214, G214⟩ := id Lf198_0
          have hin214 : ¬ (wc0 < 0 ∨ cl214.slots.size ≤ (wc0).toNatClampNeg) := inb_of S214 (own_ixr hcap (own_rgc hs0 hc1_0 hc205))
          obtain ⟨T214, h214, X214, e214, W214, st214⟩ := stJ X198 hx hZ e198 A214 (j := wc0) hin214 (g := (mkF m 93 (Lq1n2 a1 a2 p3 b2 b5 (kI 0) (kI wc0) (kJ ((wb0 ((wc0 - s0)).toNatClampNeg) + v0)) kD) [(.long ((wb0 ((wc0 - s0)).toNatClampNeg) + v0)), (.int wc0), (.ref b2)])) rfl rfl (hb hby d1_93)
          have V214 : AJ Z h214 b2 .long (p3 + (1 : Int32)) (fun i => if i = (wc0).toNatClampNeg then ((wb0 ((wc0 - s0)).toNatClampNeg) + v0) else wb0 i) := AJ.set A214 S214 M214 G214 W214
          have K214 : Keep h0 h214 [] := K201.wr W214 (Or.inr sz_b2)
          have N214 := Fr.snoc X214 N198 g_b2
          have F216 := ((V19.keep Kl198 (ninS (Ne.symm ne10) (ninS ne18 nin0))).other W214 (Ne.symm ne10))
          obtain ⟨cl215, A215, S215, Nl215, M215⟩ := id F216
          have hin215 : ¬ ((0 : Int32) < 0 ∨ cl215.slots.size ≤ ((0 : Int32)).toNatClampNeg) := AV.inb S215 Nl215 ⟨by decide, by decide⟩
          have hat215 : cl215.slots[((0 : Int32)).toNatClampNeg]? = some (.ref b11) := AV.at S215 rfl
          have F218 := (Lf198_1.other W214 (Ne.symm ne17))
          obtain ⟨cl217, A217, S217, M217, G217⟩ := id F218
          have hin217 : ¬ (wc0 < 0 ∨ cl217.slots.size ≤ (wc0).toNatClampNeg) := inb_of S217 (own_ixr hcap (own_rgc hs0 hc1_0 hc205))
          obtain ⟨T217, h217, X217, e217, W217, st217⟩ := stZ X214 hx hZ e214 A217 (j := wc0) hin217 (g := (mkF m 102 (Lq1n2 a1 a2 p3 b2 b5 (kI 0) (kI wc0) (kJ ((wb0 ((wc0 - s0)).toNatClampNeg) + v0)) kD) [(.int (1 : Int32)), (.int wc0), (.ref b11)])) rfl rfl (hb hby d1_102)
          have V217 : AI Z h217 b11 .boolean (p3 + (1 : Int32)) (fun i => if i = (wc0).toNatClampNeg then (1 : Int32) else wt0 i) := AI.set A217 S217 M217 G217 W217
          have K217 : Keep h0 h217 [] := K214.wr W217 (Or.inr sz_b11)
          have N217 := Fr.snoc X217 N214 g_b11
          have pre219 : ∀ t, Steps p.tables e below (T217.setTop (mkF m 50 (Lq1n2 a1 a2 p3 b2 b5 (kI 0) (kI (wc0 + (-1 : Int32))) (kJ ((wb0 ((wc0 - s0)).toNatClampNeg) + v0)) kD) [])) t → Steps p.tables e below (s₁.setTop (entryFrame m #[(.ref a1), (.ref a2), (.int p3)] 12)) t := fun t k => pre212 t (by
            show Steps _ _ _ (T198.setTop (mkF m 84 (Lq1n2 a1 a2 p3 b2 b5 (kI 0) (kI wc0) (kJ ((wb0 ((wc0 - s0)).toNatClampNeg) + v0)) kD) [(.int (lcmpW ((wb0 ((wc0 - s0)).toNatClampNeg) + v0) (wb0 (wc0).toNatClampNeg)))])) _
            refine XS.ifNo X198.here hx rfl (hb hby d1_84) rfl ((if0 _ _).trans (tlt hc213).2.2.2) ?_
            refine XS.aload X198.here hx rfl (hb hby d1_87) rfl rfl ?_
            refine XS.iload X198.here hx rfl (hb hby d1_89) rfl ?_
            show Steps _ _ _ (T198.setTop (mkF m 91 (Lq1n2 a1 a2 p3 b2 b5 (kI 0) (kI wc0) (kJ ((wb0 ((wc0 - s0)).toNatClampNeg) + v0)) kD) [(.int wc0), (.ref b2)])) _
            refine XS.lload X198.here hx rfl (hb hby d1_91) rfl ?_
            refine st214 _ ?_
            refine XS.aload X214.here hx rfl (hb hby d1_94) rfl rfl ?_
            refine XS.iload X214.here hx rfl (hb hby d1_96) rfl ?_
            refine X214.aaload hx (j := (0 : Int32)) (v := (.ref b11)) (by rw [e214]; exact A215.1) (State.isArrayOf_alike hZ.alike A215.2.1) rfl A215.2.2 hin215 hat215 (g := (mkF m 98 (Lq1n2 a1 a2 p3 b2 b5 (kI 0) (kI wc0) (kJ ((wb0 ((wc0 - s0)).toNatClampNeg) + v0)) kD) [(.int (0 : Int32)), (.ref b5)])) rfl rfl (hb hby d1_98) _ ?_
            show Steps _ _ _ (T214.setTop (mkF m 99 (Lq1n2 a1 a2 p3 b2 b5 (kI 0) (kI wc0) (kJ ((wb0 ((wc0 - s0)).toNatClampNeg) + v0)) kD) [(.ref b11)])) _
            refine XS.iload X214.here hx rfl (hb hby d1_99) rfl ?_
            refine XS.iconst X214.here hx rfl (hb hby d1_101) ?_
            refine st217 _ ?_
            refine XS.iinc X217.here hx rfl (hb hby d1_103) rfl (l' := (Lq1n2 a1 a2 p3 b2 b5 (kI 0) (kI (wc0 + (-1 : Int32))) (kJ ((wb0 ((wc0 - s0)).toNatClampNeg) + v0)) kD)) rfl ?_
            show Steps _ _ _ (T217.setTop (mkF m 106 (Lq1n2 a1 a2 p3 b2 b5 (kI 0) (kI (wc0 + (-1 : Int32))) (kJ ((wb0 ((wc0 - s0)).toNatClampNeg) + v0)) kD) [])) _
            refine XS.goto X217.here hx rfl (pc0 := 106) (pc' := 50) rfl (hb hby d1_106) (by decide) (by decide) ?_
            exact k)
          have F220 := (V214.other W217 ne17)
          exact ih198 (T217, _, _, (wc0 + (-1 : Int32)), .val (.long ((wb0 ((wc0 - s0)).toNatClampNeg) + v0)), .second, (fun i => if i = (wc0).toNatClampNeg then ((wb0 ((wc0 - s0)).toNatClampNeg) + v0) else wb0 i), (fun i => if i = (wc0).toNatClampNeg then (1 : Int32) else wt0 i)) ⟨(own_mle hcap hs0 hc1_0 hc205), (own_stY hcap hs0 hc1_0 hc205 (own_gt.mp hc196) hL0 (own_gt.mp hc213)), (Or.inr ⟨_, rfl, rfl⟩), X217, e217, N217, (((Kl198.wr W214 (Or.inl (List.mem_of_getElem? (i := 0) rfl))).wr W217 (Or.inl (List.mem_of_getElem? (i := 1) rfl)))), F220, V217, fun t k => pre219 t k⟩ (own_mlt hcap hs0 hc1_0 hc205)
        · have pre221 : ∀ t, Steps p.tables e below (T198.setTop (mkF m 50 (Lq1n2 a1 a2 p3 b2 b5 (kI 0) (kI (wc0 + (-1 : Int32))) (kJ ((wb0 ((wc0 - s0)).toNatClampNeg) + v0)) kD) [])) t → Steps p.tables e below (s₁.setTop (entryFrame m #[(.ref a1), (.ref a2), (.int p3)] 12)) t := fun t k => pre212 t (by
            show Steps _ _ _ (T198.setTop (mkF m 84 (Lq1n2 a1 a2 p3 b2 b5 (kI 0) (kI wc0) (kJ ((wb0 ((wc0 - s0)).toNatClampNeg) + v0)) kD) [(.int (lcmpW ((wb0 ((wc0 - s0)).toNatClampNeg) + v0) (wb0 (wc0).toNatClampNeg)))])) _
            refine XS.ifYes X198.here hx rfl (pc0 := 84) (pc' := 103) rfl (hb hby d1_84) rfl ((if0 _ _).trans (flt hc213).2.2.2) (by decide) (by decide) ?_
            refine XS.iinc X198.here hx rfl (hb hby d1_103) rfl (l' := (Lq1n2 a1 a2 p3 b2 b5 (kI 0) (kI (wc0 + (-1 : Int32))) (kJ ((wb0 ((wc0 - s0)).toNatClampNeg) + v0)) kD)) rfl ?_
            show Steps _ _ _ (T198.setTop (mkF m 106 (Lq1n2 a1 a2 p3 b2 b5 (kI 0) (kI (wc0 + (-1 : Int32))) (kJ ((wb0 ((wc0 - s0)).toNatClampNeg) + v0)) kD) [])) _
            refine XS.goto X198.here hx rfl (pc0 := 106) (pc' := 50) rfl (hb hby d1_106) (by decide) (by decide) ?_
            exact k)
          exact ih198 (T198, _, _, (wc0 + (-1 : Int32)), .val (.long ((wb0 ((wc0 - s0)).toNatClampNeg) + v0)), .second, wb0, wt0) ⟨(own_mle hcap hs0 hc1_0 hc205), (own_stN hcap hs0 hc1_0 hc205 hL0 (fun q => hc213 (own_gt.mpr q))), (Or.inr ⟨_, rfl, rfl⟩), X198, e198, N198, (Kl198), Lf198_0, Lf198_1, fun t k => pre221 t k⟩ (own_mlt hcap hs0 hc1_0 hc205)
    · have pre222 : ∀ t, Steps p.tables e below (T19.setTop (mkF m 109 (Lq1n2 a1 a2 p3 b2 b5 (kI 0) kU kU kU) [])) t → Steps p.tables e below (s₁.setTop (entryFrame m #[(.ref a1), (.ref a2), (.int p3)] 12)) t := fun t k => pre195 t (by
        show Steps _ _ _ (T19.setTop (mkF m 41 (Lq1n2 a1 a2 p3 b2 b5 (kI 0) kU kU kU) [(.int (lcmpW v0 (0 : Int64)))])) _
        refine XS.ifNo X19.here hx rfl (hb hby d1_41) rfl ((if0 _ _).trans (flt hc196).2.2.1) ?_
        refine XS.goto X19.here hx rfl (pc0 := 44) (pc' := 109) rfl (hb hby d1_44) (by decide) (by decide) ?_
        exact k)
      have F223 := ((F16.ext E11).other W19 ne10)
      have F224 := (V_b11.other W19 (Ne.symm ne18))
      exact jn22 (T19, _, _, .unset, .unset, .unset, (fun _ => 0), (fun _ => 0)) ⟨(own_itn (fun q => hc196 (own_gt.mpr q))), (Or.inl rfl), (Or.inl ⟨rfl, rfl⟩), X19, e19, N19, ((Keep.refl _ _)), F223, F224, fun t k => pre222 t k⟩
abbrev Lq1n3 (a1 : Addr) (a2 : Addr) (p3 : Int32) (b2 : Addr) (b5 : Addr) (x6 : Slot) (x7 : Slot) (x8 : Slot) (x9 : Slot) (x10 : Slot) (x11 : Slot) : Array Slot := #[.val (.ref a1), .val (.ref a2), .val (.int p3), .val (.int (3 : Int32)), .val (.ref b2), .val (.ref b5), x6, x7, x8, x9, x10, x11]
theorem ef_1n3 (m : MethodId) (x0 : Addr) (x1 : Addr) (x2 : Int32) : entryFrame m #[(.ref x0), (.ref x1), (.int x2)] 12 = mkF m 0 #[.val (.ref x0), .val (.ref x1), .val (.int x2), .unset, .unset, .unset, .unset, .unset, .unset, .unset, .unset, .unset] [] := by first | (simp [entryFrame, mkF, argsToLocals, Value.category]; done) | rfl
def Q1n3 (Z : State) (a1 : Addr) (a2 : Addr) (p3 : Int32) (s0 : Int32) (s1 : Int32) (s2 : Int32) (v0 : Int64) (v1 : Int64) (v2 : Int64) (h0 : Heap) (n0 : Nat) (v : Option Value) (h : Heap) (L : List Loc) : Prop := ∃ r1 : Addr, ∃ zr : Int32, ∃ vr : List Value, v = some (.ref r1) ∧ Fr n0 L ∧ Keep h0 h [] ∧ n0 ≤ r1 ∧ h0.size ≤ r1 ∧ AV Z h r1 .int zr vr ∧ ((zr = (0 : Int32) ∧ vr = [] ∧ own_good p3 s0 s1 s2 v0 v1 v2 false false false) ∨ (zr = (1 : Int32) ∧ vr = [.int (0 : Int32)] ∧ own_good p3 s0 s1 s2 v0 v1 v2 true false false) ∨ (zr = (1 : Int32) ∧ vr = [.int (1 : Int32)] ∧ own_good p3 s0 s1 s2 v0 v1 v2 false true false) ∨ (zr = (2 : Int32) ∧ vr = [.int (0 : Int32), .int (1 : Int32)] ∧ own_good p3 s0 s1 s2 v0 v1 v2 true true false) ∨ (zr = (1 : Int32) ∧ vr = [.int (2 : Int32)] ∧ own_good p3 s0 s1 s2 v0 v1 v2 false false true) ∨ (zr = (2 : Int32) ∧ vr = [.int (0 : Int32), .int (2 : Int32)] ∧ own_good p3 s0 s1 s2 v0 v1 v2 true false true) ∨ (zr = (2 : Int32) ∧ vr = [.int (1 : Int32), .int (2 : Int32)] ∧ own_good p3 s0 s1 s2 v0 v1 v2 false true true) ∨ (zr = (3 : Int32) ∧ vr = [.int (0 : Int32), .int (1 : Int32), .int (2 : Int32)] ∧ own_good p3 s0 s1 s2 v0 v1 v2 true true true))
set_option maxRecDepth 65536 in
set_option maxHeartbeats 40000000 in
theorem rm1n3 (l : Launch) (Z : State) (a0 : Array Value) (hw : ∀ d ∈ tables_1, d.before a0 Z = true) (ws : List Jvm.Cond) (a1 : Addr) (a2 : Addr) (p3 : Int32) (s0 : Int32) (s1 : Int32) (s2 : Int32) (v0 : Int64) (v1 : Int64) (v2 : Int64) (h0 : Heap) (n0 : Nat) (Z0 : n0 ≤ h0.size) (V_a1 : AV Z h0 a1 .int (3 : Int32) [(.int s0), (.int s1), (.int s2)]) (V_a2 : AV Z h0 a2 .long (3 : Int32) [(.long v0), (.long v1), (.long v2)]) (hcap : own_cap p3) (hs0 : own_rg s0 p3) (hs1 : own_rg s1 p3) (hs2 : own_rg s2 p3) (hv0 : own_vr v0) (hv1 : own_vr v1) (hv2 : own_vr v2) :
    MetFree l (⟨"com/example/hindsight/hindsight/solvers/Knapsack", "heaviest", "([I[JI)[I"⟩ : MethodName) (head1 (Jvm.Cond.code (⟨"com/example/hindsight/hindsight/solvers/Knapsack", "heaviest", "([I[JI)[I"⟩ : MethodName) prog_60_method_2_code 12 (some (.array .int)) :: ws) ({ frames := 0, cells := 7, slots := 73, locals := 0 } : Room)) (fun a U => a = #[(.ref a1), (.ref a2), (.int p3)] ∧ Z.Warmed39 U.vm ∧ U.heap = h0) (fun _ _ _ _ _ => True) (fun _ U o U' => ∃ v L, o = .returned v ∧ Q1n3 Z a1 a2 p3 s0 s1 s2 v0 v1 v2 h0 n0 v U'.heap L ∧ FrameEnd U o U' L ({ frames := 0, cells := 7, slots := 73, locals := 0 } : Room).cells ({ frames := 0, cells := 7, slots := 73, locals := 0 } : Room).slots) := by
  refine MetFree.of_bodySF (plainFor_of_name pn_0) hisR ?_
  intro p e s m args below meth c s₁ Bd hml0 hP hK
  obtain ⟨rfl, hZ, hh⟩ := hP
  have hx := Bd.exec
  have hlk : meth.locks = false := by first | exact BodyLoose.notSynchronized Bd | exact Body.notSynchronized Bd
  have hby := Bd.bytes
  have hml : c.maxLocals = 12 := hml0
  have hown : s.vm.findClass "com/example/hindsight/hindsight/solvers/Knapsack" = some m.cls := findClass_of_methodNamed Bd.named
  have hnm := (name_of_methodNamed Bd.named Bd.method).1
  have X0 : Stand p l e ({ frames := 0, cells := 7, slots := 73, locals := 0 } : Room) s m #[(.ref a1), (.ref a2), (.int p3)] below meth c s₁ [] 0 0 := Stand.of_body Bd
  have e0 : s₁.heap = h0 := by rw [← hh, Bd.state]; rfl
  have N0 := Fr.nil n0
  have pre0 : ∀ t, Steps p.tables e below (s₁.setTop (mkF m 0 #[.val (.ref a1), .val (.ref a2), .val (.int p3), .unset, .unset, .unset, .unset, .unset, .unset, .unset, .unset, .unset] [])) t → Steps p.tables e below (s₁.setTop (entryFrame m #[(.ref a1), (.ref a2), (.int p3)] 12)) t := fun t k => castTop (ef_1n3 m a1 a2 p3) k
  obtain ⟨cl1, A1, S1, Nl1, M1⟩ := id V_a1
  obtain ⟨T2, h2, k2, X2, e2, E2, A2, st2⟩ := newP X0 hx hZ (hw _ (List.mem_of_getElem? (i := 1) rfl)) e0 (g := (mkF m 6 #[(kR a1), (kR a2), (kI p3), (kI 3), kU, kU, kU, kU, kU, kU, kU, kU] [(.int (p3 + (1 : Int32)))])) rfl (hb hby d1_6) rfl (own_cneg hcap) (cap := 16) (own_cle hcap) (by decide) (by decide) (by decide)
  obtain ⟨b2, g2⟩ : ∃ z, z = h0.size := ⟨_, rfl⟩
  rw [← g2] at A2 st2
  have ne3 : a1 ≠ b2 := Nat.ne_of_lt (Nat.lt_of_lt_of_le V_a1.lt (Nat.le_of_eq g2.symm))
  have ne4 : a2 ≠ b2 := Nat.ne_of_lt (Nat.lt_of_lt_of_le V_a2.lt (Nat.le_of_eq g2.symm))
  have g_b2 : n0 ≤ b2 := Nat.le_trans Z0 (Nat.le_of_eq g2.symm)
  have sz_b2 : h0.size ≤ b2 := Nat.le_trans (Keep.refl h0 []).1 (Nat.le_of_eq g2.symm)
  have K2 : Keep h0 h2 [] := (Keep.refl h0 []).ext E2
  have V_b2 : AJ Z h2 b2 .long (p3 + (1 : Int32)) (fun _ => 0) := AJ.new A2 (own_cneg hcap) rfl
  obtain ⟨T5, h5, k5, X5, e5, E5, A5, Ex5, O5, st5⟩ := newRA X2 hx hZ hown (C := "[Z") (ty := .boolean) (by decide) (hw _ (List.mem_of_getElem? (i := 6) rfl)) (hw _ (List.mem_of_getElem? (i := 7) rfl)) e2 (g := (mkF m 11 #[(kR a1), (kR a2), (kI p3), (kI 3), (kR b2), kU, kU, kU, kU, kU, kU, kU] [(.int (3 : Int32))])) rfl (hb hby d1_11) rfl (by decide) (cap := 3) (by decide) (by decide) (by decide) (by decide) (ad := "[[Z") (by decide)
  obtain ⟨b5, g5⟩ : ∃ z, z = h2.size := ⟨_, rfl⟩
  rw [← g5] at A5 st5
  have F6 := (V_a1.ext E2)
  have ne7 : a1 ≠ b5 := Nat.ne_of_lt (Nat.lt_of_lt_of_le F6.lt (Nat.le_of_eq g5.symm))
  have F8 := (V_a2.ext E2)
  have ne9 : a2 ≠ b5 := Nat.ne_of_lt (Nat.lt_of_lt_of_le F8.lt (Nat.le_of_eq g5.symm))
  have ne10 : b2 ≠ b5 := Nat.ne_of_lt (Nat.lt_of_lt_of_le V_b2.lt (Nat.le_of_eq g5.symm))
  have g_b5 : n0 ≤ b5 := Nat.le_trans (Nat.le_trans Z0 K2.1) (Nat.le_of_eq g5.symm)
  have sz_b5 : h0.size ≤ b5 := Nat.le_trans K2.1 (Nat.le_of_eq g5.symm)
  have K5 : Keep h0 h5 [] := K2.ext E5
  have V_b5 : AV Z h5 b5 (.array .boolean) (3 : Int32) [.null, .null, .null] := AV.new A5 (by decide)
  have Kc5 : AK h5 b5 k5 := ⟨_, A5.1, rfl⟩
  obtain ⟨T11, h11, k11, X11, e11, E11, A11, Ex11, st11⟩ := newPE X5 hx hZ (hw _ (List.mem_of_getElem? (i := 8) rfl)) e5 (g := (mkF m 32 (Lq1n3 a1 a2 p3 b2 b5 (kI 0) kU kU kU kU kU) [(.int (p3 + (1 : Int32))), (.int (0 : Int32)), (.ref b5)])) rfl (hb hby d1_32) rfl (own_cneg hcap) (cap := 16) (own_cle hcap) (by decide) (by decide) (by decide) (ad := "[Z") (by decide)
  obtain ⟨b11, g11⟩ : ∃ z, z = h5.size := ⟨_, rfl⟩
  rw [← g11] at A11 st11 Ex11
  have F12 := (F6.ext E5)
  have ne13 : a1 ≠ b11 := Nat.ne_of_lt (Nat.lt_of_lt_of_le F12.lt (Nat.le_of_eq g11.symm))
  have F14 := (F8.ext E5)
  have ne15 : a2 ≠ b11 := Nat.ne_of_lt (Nat.lt_of_lt_of_le F14.lt (Nat.le_of_eq g11.symm))
  have F16 := (V_b2.ext E5)
  have ne17 : b2 ≠ b11 := Nat.ne_of_lt (Nat.lt_of_lt_of_le F16.lt (Nat.le_of_eq g11.symm))
  have ne18 : b5 ≠ b11 := Nat.ne_of_lt (Nat.lt_of_lt_of_le V_b5.lt (Nat.le_of_eq g11.symm))
  have g_b11 : n0 ≤ b11 := Nat.le_trans (Nat.le_trans Z0 K5.1) (Nat.le_of_eq g11.symm)
  have sz_b11 : h0.size ≤ b11 := Nat.le_trans K5.1 (Nat.le_of_eq g11.symm)
  have K11 : Keep h0 h11 [] := K5.ext E11
  have V_b11 : AI Z h11 b11 .boolean (p3 + (1 : Int32)) (fun _ => 0) := AI.new A11 (own_cneg hcap) rfl
  have F20 := (V_b5.ext E11)
  obtain ⟨cl19, A19, S19, Nl19, M19⟩ := id F20
  have hin19 : ¬ ((0 : Int32) < 0 ∨ cl19.slots.size ≤ ((0 : Int32)).toNatClampNeg) := AV.inb S19 Nl19 ⟨by decide, by decide⟩
  have F21 := (Kc5.ext E11)
  obtain ⟨T19, h19, X19, e19, W19, st19⟩ := stR X11 hx hZ e11 A19 (j := (0 : Int32)) hin19 rfl (Sto.ofVA A19 (F21.cls A19) O5 (Ins.self Ex11)) (g := (mkF m 34 (Lq1n3 a1 a2 p3 b2 b5 (kI 0) kU kU kU kU kU) [(.ref b11), (.int (0 : Int32)), (.ref b5)])) rfl rfl (hb hby d1_34)
  have V19 : AV Z h19 b5 (.array .boolean) (3 : Int32) [(.ref b11), .null, .null] := AV.set A19 S19 Nl19 M19 W19
  have K19 : Keep h0 h19 [] := K11.wr W19 (Or.inr sz_b5)
  have N19 := Fr.snoc X19 N0 g_b5
  have pre23 : ∀ t, Steps p.tables e below (T19.setTop (mkF m 35 (Lq1n3 a1 a2 p3 b2 b5 (kI 0) kU kU kU kU kU) [])) t → Steps p.tables e below (s₁.setTop (entryFrame m #[(.ref a1), (.ref a2), (.int p3)] 12)) t := fun t k => pre0 t (by
    show Steps _ _ _ (s₁.setTop (mkF m 0 #[(kR a1), (kR a2), (kI p3), kU, kU, kU, kU, kU, kU, kU, kU, kU] [])) _
    refine XS.aloadN X0.here hx rfl (hb hby d1_0) rfl rfl ?_
    refine X0.arraylength hx (by rw [e0]; exact A1.1) (State.isArrayOf_alike hZ.alike A1.2.1) (g := (mkF m 1 #[(kR a1), (kR a2), (kI p3), kU, kU, kU, kU, kU, kU, kU, kU, kU] [(.ref a1)])) rfl rfl (hb hby d1_1) _ ?_
    rw [AV.len S1 Nl1 M1]
    refine XS.istoreN X0.here hx rfl (hb hby d1_2) rfl (l' := #[(kR a1), (kR a2), (kI p3), (kI 3), kU, kU, kU, kU, kU, kU, kU, kU]) rfl ?_
    show Steps _ _ _ (s₁.setTop (mkF m 3 #[(kR a1), (kR a2), (kI p3), (kI 3), kU, kU, kU, kU, kU, kU, kU, kU] [])) _
    refine XS.iloadN X0.here hx rfl (hb hby d1_3) rfl ?_
    refine XS.iconst X0.here hx rfl (hb hby d1_4) ?_
    refine XS.iadd X0.here hx rfl (hb hby d1_5) rfl ?_
    refine st2 _ ?_
    show Steps _ _ _ (T2.setTop (mkF m 8 #[(kR a1), (kR a2), (kI p3), (kI 3), kU, kU, kU, kU, kU, kU, kU, kU] [(.ref b2)])) _
    refine XS.astore X2.here hx rfl (hb hby d1_8) rfl rfl (l' := #[(kR a1), (kR a2), (kI p3), (kI 3), (kR b2), kU, kU, kU, kU, kU, kU, kU]) rfl ?_
    refine XS.iloadN X2.here hx rfl (hb hby d1_10) rfl ?_
    refine st5 _ ?_
    refine XS.astore X5.here hx rfl (hb hby d1_14) rfl rfl (l' := (Lq1n3 a1 a2 p3 b2 b5 kU kU kU kU kU kU)) rfl ?_
    show Steps _ _ _ (T5.setTop (mkF m 16 (Lq1n3 a1 a2 p3 b2 b5 kU kU kU kU kU kU) [])) _
    refine XS.iconst X5.here hx rfl (hb hby d1_16) ?_
    refine XS.istore X5.here hx rfl (hb hby d1_17) rfl (l' := (Lq1n3 a1 a2 p3 b2 b5 (kI 0) kU kU kU kU kU)) rfl ?_
    refine XS.iload X5.here hx rfl (hb hby d1_19) rfl ?_
    show Steps _ _ _ (T5.setTop (mkF m 21 (Lq1n3 a1 a2 p3 b2 b5 (kI 0) kU kU kU kU kU) [(.int (0 : Int32))])) _
    refine XS.iloadN X5.here hx rfl (hb hby d1_21) rfl ?_
    refine XS.icmpNo X5.here hx rfl (hb hby d1_22) rfl (tlt (by decide : (0 : Int32) < (3 : Int32))).2.1 ?_
    refine XS.aload X5.here hx rfl (hb hby d1_25) rfl rfl ?_
    show Steps _ _ _ (T5.setTop (mkF m 27 (Lq1n3 a1 a2 p3 b2 b5 (kI 0) kU kU kU kU kU) [(.ref b5)])) _
    refine XS.iload X5.here hx rfl (hb hby d1_27) rfl ?_
    refine XS.iloadN X5.here hx rfl (hb hby d1_29) rfl ?_
    refine XS.iconst X5.here hx rfl (hb hby d1_30) ?_
    show Steps _ _ _ (T5.setTop (mkF m 31 (Lq1n3 a1 a2 p3 b2 b5 (kI 0) kU kU kU kU kU) [(.int (1 : Int32)), (.int p3), (.int (0 : Int32)), (.ref b5)])) _
    refine XS.iadd X5.here hx rfl (hb hby d1_31) rfl ?_
    refine st11 _ ?_
    refine st19 _ ?_
    exact k)
  refine own_jn (α := State × (List Loc) × Heap × Slot × Slot × Slot × (Nat → Int64) × (Nat → Int32)) (fun a => match a with | (T22, locs22, h22, uc0, ux0, uy0, ub1, ut0) => own_item p3 (fun _ => 0) v0 s0 ub1 ut0 ∧ own_sl uc0 ∧ own_sl2 ux0 uy0 ∧ Stand p l e ({ frames := 0, cells := 7, slots := 73, locals := 0 } : Room) s m #[(.ref a1), (.ref a2), (.int p3)] below meth c T22 locs22 3 35 ∧ T22.heap = h22 ∧ Fr n0 locs22 ∧ Keep h19 h22 [b2, b11] ∧ AJ Z h22 b2 .long (p3 + (1 : Int32)) ub1 ∧ AI Z h22 b11 .boolean (p3 + (1 : Int32)) ut0 ∧ (∀ t, Steps p.tables e below (T22.setTop (mkF m 109 (Lq1n3 a1 a2 p3 b2 b5 (kI 0) uc0 ux0 uy0 kU kU) [])) t → Steps p.tables e below (s₁.setTop (entryFrame m #[(.ref a1), (.ref a2), (.int p3)] 12)) t)) ?_ ?_
  · rintro ⟨T22, locs22, h22, uc0, ux0, uy0, ub1, ut0⟩ ⟨hI0, hsl_uc0, hsl_ux0, X22, e22, N22, Kl22, Lf22_0, Lf22_1, pre22⟩
    have K24 : Keep h0 h22 [] := K19.trans Kl22 (allS (Or.inr sz_b2) (allS (Or.inr sz_b11) all0))
    obtain ⟨T25, h25, k25, X25, e25, E25, A25, Ex25, st25⟩ := newPE X22 hx hZ (hw _ (List.mem_of_getElem? (i := 8) rfl)) e22 (g := (mkF m 32 (Lq1n3 a1 a2 p3 b2 b5 (kI 1) uc0 ux0 uy0 kU kU) [(.int (p3 + (1 : Int32))), (.int (1 : Int32)), (.ref b5)])) rfl (hb hby d1_32) rfl (own_cneg hcap) (cap := 16) (own_cle hcap) (by decide) (by decide) (by decide) (ad := "[Z") (by decide)
    obtain ⟨b25, g25⟩ : ∃ z, z = h22.size := ⟨_, rfl⟩
    rw [← g25] at A25 st25 Ex25
    have F26 := ((Ex11.wr W19).keep Kl22)
    have ne27 : b11 ≠ b25 := Nat.ne_of_lt (Nat.lt_of_lt_of_le F26.lt (Nat.le_of_eq g25.symm))
    have F28 := (((F12.ext E11).other W19 ne7).keep Kl22 (ninS ne3 (ninS ne13 nin0)))
    have ne29 : a1 ≠ b25 := Nat.ne_of_lt (Nat.lt_of_lt_of_le F28.lt (Nat.le_of_eq g25.symm))
    have F30 := (((F14.ext E11).other W19 ne9).keep Kl22 (ninS ne4 (ninS ne15 nin0)))
    have ne31 : a2 ≠ b25 := Nat.ne_of_lt (Nat.lt_of_lt_of_le F30.lt (Nat.le_of_eq g25.symm))
    have F32 := (V19.keep Kl22 (ninS (Ne.symm ne10) (ninS ne18 nin0)))
    have ne33 : b5 ≠ b25 := Nat.ne_of_lt (Nat.lt_of_lt_of_le F32.lt (Nat.le_of_eq g25.symm))
    have ne34 : b2 ≠ b25 := Nat.ne_of_lt (Nat.lt_of_lt_of_le Lf22_0.lt (Nat.le_of_eq g25.symm))
    have g_b25 : n0 ≤ b25 := Nat.le_trans (Nat.le_trans Z0 K24.1) (Nat.le_of_eq g25.symm)
    have sz_b25 : h0.size ≤ b25 := Nat.le_trans K24.1 (Nat.le_of_eq g25.symm)
    have K25 : Keep h0 h25 [] := K24.ext E25
    have V_b25 : AI Z h25 b25 .boolean (p3 + (1 : Int32)) (fun _ => 0) := AI.new A25 (own_cneg hcap) rfl
    have F36 := (F32.ext E25)
    obtain ⟨cl35, A35, S35, Nl35, M35⟩ := id F36
    have hin35 : ¬ ((1 : Int32) < 0 ∨ cl35.slots.size ≤ ((1 : Int32)).toNatClampNeg) := AV.inb S35 Nl35 ⟨by decide, by decide⟩
    have F37 := (((F21.wr W19).keep Kl22).ext E25)
    obtain ⟨T35, h35, X35, e35, W35, st35⟩ := stR X25 hx hZ e25 A35 (j := (1 : Int32)) hin35 rfl (Sto.ofVA A35 (F37.cls A35) O5 (Ins.self Ex25)) (g := (mkF m 34 (Lq1n3 a1 a2 p3 b2 b5 (kI 1) uc0 ux0 uy0 kU kU) [(.ref b25), (.int (1 : Int32)), (.ref b5)])) rfl rfl (hb hby d1_34)
    have V35 : AV Z h35 b5 (.array .boolean) (3 : Int32) [(.ref b11), (.ref b25), .null] := AV.set A35 S35 Nl35 M35 W35
    have K35 : Keep h0 h35 [] := K25.wr W35 (Or.inr sz_b5)
    have N35 := Fr.snoc X35 N22 g_b5
    have pre39 : ∀ t, Steps p.tables e below (T35.setTop (mkF m 35 (Lq1n3 a1 a2 p3 b2 b5 (kI 1) uc0 ux0 uy0 kU kU) [])) t → Steps p.tables e below (s₁.setTop (entryFrame m #[(.ref a1), (.ref a2), (.int p3)] 12)) t := fun t k => pre22 t (by
      show Steps _ _ _ (T22.setTop (mkF m 109 (Lq1n3 a1 a2 p3 b2 b5 (kI 0) uc0 ux0 uy0 kU kU) [])) _
      refine XS.iinc X22.here hx rfl (hb hby d1_109) rfl (l' := (Lq1n3 a1 a2 p3 b2 b5 (kI 1) uc0 ux0 uy0 kU kU)) rfl ?_
      refine XS.goto X22.here hx rfl (pc0 := 112) (pc' := 19) rfl (hb hby d1_112) (by decide) (by decide) ?_
      show Steps _ _ _ (T22.setTop (mkF m 19 (Lq1n3 a1 a2 p3 b2 b5 (kI 1) uc0 ux0 uy0 kU kU) [])) _
      refine XS.iload X22.here hx rfl (hb hby d1_19) rfl ?_
      refine XS.iloadN X22.here hx rfl (hb hby d1_21) rfl ?_
      refine XS.icmpNo X22.here hx rfl (hb hby d1_22) rfl (tlt (by decide : (1 : Int32) < (3 : Int32))).2.1 ?_
      show Steps _ _ _ (T22.setTop (mkF m 25 (Lq1n3 a1 a2 p3 b2 b5 (kI 1) uc0 ux0 uy0 kU kU) [])) _
      refine XS.aload X22.here hx rfl (hb hby d1_25) rfl rfl ?_
      refine XS.iload X22.here hx rfl (hb hby d1_27) rfl ?_
      refine XS.iloadN X22.here hx rfl (hb hby d1_29) rfl ?_
      show Steps _ _ _ (T22.setTop (mkF m 30 (Lq1n3 a1 a2 p3 b2 b5 (kI 1) uc0 ux0 uy0 kU kU) [(.int p3), (.int (1 : Int32)), (.ref b5)])) _
      refine XS.iconst X22.here hx rfl (hb hby d1_30) ?_
      refine XS.iadd X22.here hx rfl (hb hby d1_31) rfl ?_
      refine st25 _ ?_
      refine st35 _ ?_
      exact k)
    refine own_jn (α := State × (List Loc) × Heap × Slot × Slot × Slot × (Nat → Int64) × (Nat → Int32)) (fun a => match a with | (T38, locs38, h38, uc1, ux1, uy1, ub2, ut1) => own_item p3 ub1 v1 s1 ub2 ut1 ∧ own_sl uc1 ∧ own_sl2 ux1 uy1 ∧ Stand p l e ({ frames := 0, cells := 7, slots := 73, locals := 0 } : Room) s m #[(.ref a1), (.ref a2), (.int p3)] below meth c T38 locs38 4 51 ∧ T38.heap = h38 ∧ Fr n0 locs38 ∧ Keep h35 h38 [b2, b25] ∧ AJ Z h38 b2 .long (p3 + (1 : Int32)) ub2 ∧ AI Z h38 b25 .boolean (p3 + (1 : Int32)) ut1 ∧ (∀ t, Steps p.tables e below (T38.setTop (mkF m 109 (Lq1n3 a1 a2 p3 b2 b5 (kI 1) uc1 ux1 uy1 kU kU) [])) t → Steps p.tables e below (s₁.setTop (entryFrame m #[(.ref a1), (.ref a2), (.int p3)] 12)) t)) ?_ ?_
    · rintro ⟨T38, locs38, h38, uc1, ux1, uy1, ub2, ut1⟩ ⟨hI1, hsl_uc1, hsl_ux1, X38, e38, N38, Kl38, Lf38_0, Lf38_1, pre38⟩
      have K40 : Keep h0 h38 [] := K35.trans Kl38 (allS (Or.inr sz_b2) (allS (Or.inr sz_b25) all0))
      obtain ⟨T41, h41, k41, X41, e41, E41, A41, Ex41, st41⟩ := newPE X38 hx hZ (hw _ (List.mem_of_getElem? (i := 8) rfl)) e38 (g := (mkF m 32 (Lq1n3 a1 a2 p3 b2 b5 (kI 2) uc1 ux1 uy1 kU kU) [(.int (p3 + (1 : Int32))), (.int (2 : Int32)), (.ref b5)])) rfl (hb hby d1_32) rfl (own_cneg hcap) (cap := 16) (own_cle hcap) (by decide) (by decide) (by decide) (ad := "[Z") (by decide)
      obtain ⟨b41, g41⟩ : ∃ z, z = h38.size := ⟨_, rfl⟩
      rw [← g41] at A41 st41 Ex41
      have F42 := (((F26.ext E25).wr W35).keep Kl38)
      have ne43 : b11 ≠ b41 := Nat.ne_of_lt (Nat.lt_of_lt_of_le F42.lt (Nat.le_of_eq g41.symm))
      have F44 := ((Ex25.wr W35).keep Kl38)
      have ne45 : b25 ≠ b41 := Nat.ne_of_lt (Nat.lt_of_lt_of_le F44.lt (Nat.le_of_eq g41.symm))
      have F46 := (((F28.ext E25).other W35 ne7).keep Kl38 (ninS ne3 (ninS ne29 nin0)))
      have ne47 : a1 ≠ b41 := Nat.ne_of_lt (Nat.lt_of_lt_of_le F46.lt (Nat.le_of_eq g41.symm))
      have F48 := (((F30.ext E25).other W35 ne9).keep Kl38 (ninS ne4 (ninS ne31 nin0)))
      have ne49 : a2 ≠ b41 := Nat.ne_of_lt (Nat.lt_of_lt_of_le F48.lt (Nat.le_of_eq g41.symm))
      have F50 := (V35.keep Kl38 (ninS (Ne.symm ne10) (ninS ne33 nin0)))
      have ne51 : b5 ≠ b41 := Nat.ne_of_lt (Nat.lt_of_lt_of_le F50.lt (Nat.le_of_eq g41.symm))
      have ne52 : b2 ≠ b41 := Nat.ne_of_lt (Nat.lt_of_lt_of_le Lf38_0.lt (Nat.le_of_eq g41.symm))
      have g_b41 : n0 ≤ b41 := Nat.le_trans (Nat.le_trans Z0 K40.1) (Nat.le_of_eq g41.symm)
      have sz_b41 : h0.size ≤ b41 := Nat.le_trans K40.1 (Nat.le_of_eq g41.symm)
      have K41 : Keep h0 h41 [] := K40.ext E41
      have V_b41 : AI Z h41 b41 .boolean (p3 + (1 : Int32)) (fun _ => 0) := AI.new A41 (own_cneg hcap) rfl
      have F54 := (F50.ext E41)
      obtain ⟨cl53, A53, S53, Nl53, M53⟩ := id F54
      have hin53 : ¬ ((2 : Int32) < 0 ∨ cl53.slots.size ≤ ((2 : Int32)).toNatClampNeg) := AV.inb S53 Nl53 ⟨by decide, by decide⟩
      have F55 := (((F37.wr W35).keep Kl38).ext E41)
      obtain ⟨T53, h53, X53, e53, W53, st53⟩ := stR X41 hx hZ e41 A53 (j := (2 : Int32)) hin53 rfl (Sto.ofVA A53 (F55.cls A53) O5 (Ins.self Ex41)) (g := (mkF m 34 (Lq1n3 a1 a2 p3 b2 b5 (kI 2) uc1 ux1 uy1 kU kU) [(.ref b41), (.int (2 : Int32)), (.ref b5)])) rfl rfl (hb hby d1_34)
      have V53 : AV Z h53 b5 (.array .boolean) (3 : Int32) [(.ref b11), (.ref b25), (.ref b41)] := AV.set A53 S53 Nl53 M53 W53
      have K53 : Keep h0 h53 [] := K41.wr W53 (Or.inr sz_b5)
      have N53 := Fr.snoc X53 N38 g_b5
      have pre57 : ∀ t, Steps p.tables e below (T53.setTop (mkF m 35 (Lq1n3 a1 a2 p3 b2 b5 (kI 2) uc1 ux1 uy1 kU kU) [])) t → Steps p.tables e below (s₁.setTop (entryFrame m #[(.ref a1), (.ref a2), (.int p3)] 12)) t := fun t k => pre38 t (by
        show Steps _ _ _ (T38.setTop (mkF m 109 (Lq1n3 a1 a2 p3 b2 b5 (kI 1) uc1 ux1 uy1 kU kU) [])) _
        refine XS.iinc X38.here hx rfl (hb hby d1_109) rfl (l' := (Lq1n3 a1 a2 p3 b2 b5 (kI 2) uc1 ux1 uy1 kU kU)) rfl ?_
        show Steps _ _ _ (T38.setTop (mkF m 112 (Lq1n3 a1 a2 p3 b2 b5 (kI 2) uc1 ux1 uy1 kU kU) [])) _
        refine XS.goto X38.here hx rfl (pc0 := 112) (pc' := 19) rfl (hb hby d1_112) (by decide) (by decide) ?_
        refine XS.iload X38.here hx rfl (hb hby d1_19) rfl ?_
        refine XS.iloadN X38.here hx rfl (hb hby d1_21) rfl ?_
        show Steps _ _ _ (T38.setTop (mkF m 22 (Lq1n3 a1 a2 p3 b2 b5 (kI 2) uc1 ux1 uy1 kU kU) [(.int (3 : Int32)), (.int (2 : Int32))])) _
        refine XS.icmpNo X38.here hx rfl (hb hby d1_22) rfl (tlt (by decide : (2 : Int32) < (3 : Int32))).2.1 ?_
        refine XS.aload X38.here hx rfl (hb hby d1_25) rfl rfl ?_
        refine XS.iload X38.here hx rfl (hb hby d1_27) rfl ?_
        show Steps _ _ _ (T38.setTop (mkF m 29 (Lq1n3 a1 a2 p3 b2 b5 (kI 2) uc1 ux1 uy1 kU kU) [(.int (2 : Int32)), (.ref b5)])) _
        refine XS.iloadN X38.here hx rfl (hb hby d1_29) rfl ?_
        refine XS.iconst X38.here hx rfl (hb hby d1_30) ?_
        refine XS.iadd X38.here hx rfl (hb hby d1_31) rfl ?_
        refine st41 _ ?_
        refine st53 _ ?_
        exact k)
      refine own_jn (α := State × (List Loc) × Heap × Slot × Slot × Slot × (Nat → Int64) × (Nat → Int32)) (fun a => match a with | (T56, locs56, h56, uc2, ux2, uy2, ub3, ut2) => own_item p3 ub2 v2 s2 ub3 ut2 ∧ own_sl uc2 ∧ own_sl2 ux2 uy2 ∧ Stand p l e ({ frames := 0, cells := 7, slots := 73, locals := 0 } : Room) s m #[(.ref a1), (.ref a2), (.int p3)] below meth c T56 locs56 5 67 ∧ T56.heap = h56 ∧ Fr n0 locs56 ∧ Keep h53 h56 [b2, b41] ∧ AJ Z h56 b2 .long (p3 + (1 : Int32)) ub3 ∧ AI Z h56 b41 .boolean (p3 + (1 : Int32)) ut2 ∧ (∀ t, Steps p.tables e below (T56.setTop (mkF m 109 (Lq1n3 a1 a2 p3 b2 b5 (kI 2) uc2 ux2 uy2 kU kU) [])) t → Steps p.tables e below (s₁.setTop (entryFrame m #[(.ref a1), (.ref a2), (.int p3)] 12)) t)) ?_ ?_
      · rintro ⟨T56, locs56, h56, uc2, ux2, uy2, ub3, ut2⟩ ⟨hI2, hsl_uc2, hsl_ux2, X56, e56, N56, Kl56, Lf56_0, Lf56_1, pre56⟩
        have K58 : Keep h0 h56 [] := K53.trans Kl56 (allS (Or.inr sz_b2) (allS (Or.inr sz_b41) all0))
        obtain ⟨T59, h59, k59, X59, e59, E59, A59, st59⟩ := newP X56 hx hZ (hw _ (List.mem_of_getElem? (i := 8) rfl)) e56 (g := (mkF m 119 (Lq1n3 a1 a2 p3 b2 b5 (kI 0) uc2 ux2 uy2 kU kU) [(.int (3 : Int32))])) rfl (hb hby d1_119) rfl (by decide) (cap := 3) (by decide) (by decide) (by decide) (by decide)
        obtain ⟨b59, g59⟩ : ∃ z, z = h56.size := ⟨_, rfl⟩
        rw [← g59] at A59 st59
        have F60 := (((F42.ext E41).wr W53).keep Kl56)
        have ne61 : b11 ≠ b59 := Nat.ne_of_lt (Nat.lt_of_lt_of_le F60.lt (Nat.le_of_eq g59.symm))
        have F62 := (((F44.ext E41).wr W53).keep Kl56)
        have ne63 : b25 ≠ b59 := Nat.ne_of_lt (Nat.lt_of_lt_of_le F62.lt (Nat.le_of_eq g59.symm))
        have F64 := ((Ex41.wr W53).keep Kl56)
        have ne65 : b41 ≠ b59 := Nat.ne_of_lt (Nat.lt_of_lt_of_le F64.lt (Nat.le_of_eq g59.symm))
        have F66 := (((F46.ext E41).other W53 ne7).keep Kl56 (ninS ne3 (ninS ne47 nin0)))
        have ne67 : a1 ≠ b59 := Nat.ne_of_lt (Nat.lt_of_lt_of_le F66.lt (Nat.le_of_eq g59.symm))
        have F68 := (((F48.ext E41).other W53 ne9).keep Kl56 (ninS ne4 (ninS ne49 nin0)))
        have ne69 : a2 ≠ b59 := Nat.ne_of_lt (Nat.lt_of_lt_of_le F68.lt (Nat.le_of_eq g59.symm))
        have F70 := (V53.keep Kl56 (ninS (Ne.symm ne10) (ninS ne51 nin0)))
        have ne71 : b5 ≠ b59 := Nat.ne_of_lt (Nat.lt_of_lt_of_le F70.lt (Nat.le_of_eq g59.symm))
        have ne72 : b2 ≠ b59 := Nat.ne_of_lt (Nat.lt_of_lt_of_le Lf56_0.lt (Nat.le_of_eq g59.symm))
        have g_b59 : n0 ≤ b59 := Nat.le_trans (Nat.le_trans Z0 K58.1) (Nat.le_of_eq g59.symm)
        have sz_b59 : h0.size ≤ b59 := Nat.le_trans K58.1 (Nat.le_of_eq g59.symm)
        have K59 : Keep h0 h59 [] := K58.ext E59
        have V_b59 : AV Z h59 b59 .boolean (3 : Int32) [(.int (0 : Int32)), (.int (0 : Int32)), (.int (0 : Int32))] := AV.new A59 (by decide)
        have F74 := (F70.ext E59)
        obtain ⟨cl73, A73, S73, Nl73, M73⟩ := id F74
        have hin73 : ¬ ((2 : Int32) < 0 ∨ cl73.slots.size ≤ ((2 : Int32)).toNatClampNeg) := AV.inb S73 Nl73 ⟨by decide, by decide⟩
        have hat73 : cl73.slots[((2 : Int32)).toNatClampNeg]? = some (.ref b41) := AV.at S73 rfl
        have F76 := (Lf56_1.ext E59)
        obtain ⟨cl75, A75, S75, M75, G75⟩ := id F76
        have hin75 : ¬ (p3 < 0 ∨ cl75.slots.size ≤ (p3).toNatClampNeg) := inb_of S75 (own_ixr hcap ⟨hcap.1, Int.le_refl _⟩)
        have hat75 : cl75.slots[(p3).toNatClampNeg]? = some (.int (ut2 (p3).toNatClampNeg)) := AI.at S75 G75 hin75
        have pre77 : ∀ t, Steps p.tables e below (T59.setTop (mkF m 144 (Lq1n3 a1 a2 p3 b2 b5 (kI 0) (kR b59) (kI p3) (kI 2) kU kU) [(.int (ut2 (p3).toNatClampNeg))])) t → Steps p.tables e below (s₁.setTop (entryFrame m #[(.ref a1), (.ref a2), (.int p3)] 12)) t := fun t k => pre56 t (by
          show Steps _ _ _ (T56.setTop (mkF m 109 (Lq1n3 a1 a2 p3 b2 b5 (kI 2) uc2 ux2 uy2 kU kU) [])) _
          refine XS.iinc X56.here hx rfl (hb hby d1_109) rfl (l' := (Lq1n3 a1 a2 p3 b2 b5 (kI 3) uc2 ux2 uy2 kU kU)) rfl ?_
          refine XS.goto X56.here hx rfl (pc0 := 112) (pc' := 19) rfl (hb hby d1_112) (by decide) (by decide) ?_
          refine XS.iload X56.here hx rfl (hb hby d1_19) rfl ?_
          show Steps _ _ _ (T56.setTop (mkF m 21 (Lq1n3 a1 a2 p3 b2 b5 (kI 3) uc2 ux2 uy2 kU kU) [(.int (3 : Int32))])) _
          refine XS.iloadN X56.here hx rfl (hb hby d1_21) rfl ?_
          refine XS.icmpYes X56.here hx rfl (pc0 := 22) (pc' := 115) rfl (hb hby d1_22) rfl (flt (by decide : ¬ ((3 : Int32) < (3 : Int32)))).2.1 (by decide) (by decide) ?_
          refine XS.iconst X56.here hx rfl (hb hby d1_115) ?_
          show Steps _ _ _ (T56.setTop (mkF m 116 (Lq1n3 a1 a2 p3 b2 b5 (kI 3) uc2 ux2 uy2 kU kU) [(.int (0 : Int32))])) _
          refine XS.istore X56.here hx rfl (hb hby d1_116) rfl (l' := (Lq1n3 a1 a2 p3 b2 b5 (kI 0) uc2 ux2 uy2 kU kU)) rfl ?_
          refine XS.iloadN X56.here hx rfl (hb hby d1_118) rfl ?_
          refine st59 _ ?_
          refine XS.astore X59.here hx rfl (hb hby d1_121) rfl rfl (l' := (Lq1n3 a1 a2 p3 b2 b5 (kI 0) (kR b59) ux2 uy2 kU kU)) (by rcases hsl_uc2 with rfl | ⟨_, rfl⟩ | ⟨_, rfl⟩ <;> rfl) ?_
          show Steps _ _ _ (T59.setTop (mkF m 123 (Lq1n3 a1 a2 p3 b2 b5 (kI 0) (kR b59) ux2 uy2 kU kU) [])) _
          refine XS.iloadN X59.here hx rfl (hb hby d1_123) rfl ?_
          refine XS.istore X59.here hx rfl (hb hby d1_124) rfl (l' := (Lq1n3 a1 a2 p3 b2 b5 (kI 0) (kR b59) (kI p3) kU kU kU)) (by rcases hsl_ux2 with ⟨rfl, rfl⟩ | ⟨_, rfl, rfl⟩ <;> rfl) ?_
          refine XS.iloadN X59.here hx rfl (hb hby d1_126) rfl ?_
          show Steps _ _ _ (T59.setTop (mkF m 127 (Lq1n3 a1 a2 p3 b2 b5 (kI 0) (kR b59) (kI p3) kU kU kU) [(.int (3 : Int32))])) _
          refine XS.iconst X59.here hx rfl (hb hby d1_127) ?_
          refine XS.isub X59.here hx rfl (hb hby d1_128) rfl ?_
          refine XS.istore X59.here hx rfl (hb hby d1_129) rfl (l' := (Lq1n3 a1 a2 p3 b2 b5 (kI 0) (kR b59) (kI p3) (kI 2) kU kU)) rfl ?_
          show Steps _ _ _ (T59.setTop (mkF m 131 (Lq1n3 a1 a2 p3 b2 b5 (kI 0) (kR b59) (kI p3) (kI 2) kU kU) [])) _
          refine XS.iload X59.here hx rfl (hb hby d1_131) rfl ?_
          refine XS.ifNo X59.here hx rfl (hb hby d1_133) rfl ((if0 _ _).trans (flt (by decide : ¬ ((2 : Int32) < (0 : Int32)))).1) ?_
          refine XS.aload X59.here hx rfl (hb hby d1_136) rfl rfl ?_
          show Steps _ _ _ (T59.setTop (mkF m 138 (Lq1n3 a1 a2 p3 b2 b5 (kI 0) (kR b59) (kI p3) (kI 2) kU kU) [(.ref b5)])) _
          refine XS.iload X59.here hx rfl (hb hby d1_138) rfl ?_
          refine X59.aaload hx (j := (2 : Int32)) (v := (.ref b41)) (by rw [e59]; exact A73.1) (State.isArrayOf_alike hZ.alike A73.2.1) rfl A73.2.2 hin73 hat73 (g := (mkF m 140 (Lq1n3 a1 a2 p3 b2 b5 (kI 0) (kR b59) (kI p3) (kI 2) kU kU) [(.int (2 : Int32)), (.ref b5)])) rfl rfl (hb hby d1_140) _ ?_
          refine XS.iload X59.here hx rfl (hb hby d1_141) rfl ?_
          refine X59.baloadBooleans hx (j := p3) (v := (.int (ut2 (p3).toNatClampNeg))) (by rw [e59]; exact A75.1) (State.isArrayOf_alike hZ.alike A75.2.1) A75.2.2 hin75 hat75 (g := (mkF m 143 (Lq1n3 a1 a2 p3 b2 b5 (kI 0) (kR b59) (kI p3) (kI 2) kU kU) [(.int p3), (.ref b41)])) rfl rfl (hb hby d1_143) _ ?_
          exact k)
        by_cases hc78 : (ut2 (p3).toNatClampNeg) = (0 : Int32)
        · have hT79 : own_tr ut2 s2 p3 false p3 := Or.inl ⟨rfl, hc78, rfl⟩
          obtain ⟨cl80, A80, S80, Nl80, M80⟩ := id F74
          have hin80 : ¬ ((1 : Int32) < 0 ∨ cl80.slots.size ≤ ((1 : Int32)).toNatClampNeg) := AV.inb S80 Nl80 ⟨by decide, by decide⟩
          have hat80 : cl80.slots[((1 : Int32)).toNatClampNeg]? = some (.ref b25) := AV.at S80 rfl
          have F82 := ((((Lf38_1.ext E41).other W53 (Ne.symm ne33)).keep Kl56 (ninS (Ne.symm ne34) (ninS ne45 nin0))).ext E59)
          obtain ⟨cl81, A81, S81, M81, G81⟩ := id F82
          have hin81 : ¬ (p3 < 0 ∨ cl81.slots.size ≤ (p3).toNatClampNeg) := inb_of S81 (own_ixr hcap ⟨hcap.1, Int.le_refl _⟩)
          have hat81 : cl81.slots[(p3).toNatClampNeg]? = some (.int (ut1 (p3).toNatClampNeg)) := AI.at S81 G81 hin81
          have pre83 : ∀ t, Steps p.tables e below (T59.setTop (mkF m 144 (Lq1n3 a1 a2 p3 b2 b5 (kI 0) (kR b59) (kI p3) (kI 1) kU kU) [(.int (ut1 (p3).toNatClampNeg))])) t → Steps p.tables e below (s₁.setTop (entryFrame m #[(.ref a1), (.ref a2), (.int p3)] 12)) t := fun t k => pre77 t (by
            show Steps _ _ _ (T59.setTop (mkF m 144 (Lq1n3 a1 a2 p3 b2 b5 (kI 0) (kR b59) (kI p3) (kI 2) kU kU) [(.int (ut2 (p3).toNatClampNeg))])) _
            refine XS.ifYes X59.here hx rfl (pc0 := 144) (pc' := 165) rfl (hb hby d1_144) rfl ((if0 _ _).trans (teq hc78).1) (by decide) (by decide) ?_
            show Steps _ _ _ (T59.setTop (mkF m 165 (Lq1n3 a1 a2 p3 b2 b5 (kI 0) (kR b59) (kI p3) (kI 2) kU kU) [])) _
            refine XS.iinc X59.here hx rfl (hb hby d1_165) rfl (l' := (Lq1n3 a1 a2 p3 b2 b5 (kI 0) (kR b59) (kI p3) (kI 1) kU kU)) rfl ?_
            refine XS.goto X59.here hx rfl (pc0 := 168) (pc' := 131) rfl (hb hby d1_168) (by decide) (by decide) ?_
            refine XS.iload X59.here hx rfl (hb hby d1_131) rfl ?_
            show Steps _ _ _ (T59.setTop (mkF m 133 (Lq1n3 a1 a2 p3 b2 b5 (kI 0) (kR b59) (kI p3) (kI 1) kU kU) [(.int (1 : Int32))])) _
            refine XS.ifNo X59.here hx rfl (hb hby d1_133) rfl ((if0 _ _).trans (flt (by decide : ¬ ((1 : Int32) < (0 : Int32)))).1) ?_
            refine XS.aload X59.here hx rfl (hb hby d1_136) rfl rfl ?_
            refine XS.iload X59.here hx rfl (hb hby d1_138) rfl ?_
            refine X59.aaload hx (j := (1 : Int32)) (v := (.ref b25)) (by rw [e59]; exact A80.1) (State.isArrayOf_alike hZ.alike A80.2.1) rfl A80.2.2 hin80 hat80 (g := (mkF m 140 (Lq1n3 a1 a2 p3 b2 b5 (kI 0) (kR b59) (kI p3) (kI 1) kU kU) [(.int (1 : Int32)), (.ref b5)])) rfl rfl (hb hby d1_140) _ ?_
            show Steps _ _ _ (T59.setTop (mkF m 141 (Lq1n3 a1 a2 p3 b2 b5 (kI 0) (kR b59) (kI p3) (kI 1) kU kU) [(.ref b25)])) _
            refine XS.iload X59.here hx rfl (hb hby d1_141) rfl ?_
            refine X59.baloadBooleans hx (j := p3) (v := (.int (ut1 (p3).toNatClampNeg))) (by rw [e59]; exact A81.1) (State.isArrayOf_alike hZ.alike A81.2.1) A81.2.2 hin81 hat81 (g := (mkF m 143 (Lq1n3 a1 a2 p3 b2 b5 (kI 0) (kR b59) (kI p3) (kI 1) kU kU) [(.int p3), (.ref b25)])) rfl rfl (hb hby d1_143) _ ?_
            exact k)
          by_cases hc84 : (ut1 (p3).toNatClampNeg) = (0 : Int32)
          · have hT85 : own_tr ut1 s1 p3 false p3 := Or.inl ⟨rfl, hc84, rfl⟩
            obtain ⟨cl86, A86, S86, Nl86, M86⟩ := id F74
            have hin86 : ¬ ((0 : Int32) < 0 ∨ cl86.slots.size ≤ ((0 : Int32)).toNatClampNeg) := AV.inb S86 Nl86 ⟨by decide, by decide⟩
            have hat86 : cl86.slots[((0 : Int32)).toNatClampNeg]? = some (.ref b11) := AV.at S86 rfl
            have F88 := (((((((Lf22_1.ext E25).other W35 (Ne.symm ne18)).keep Kl38 (ninS (Ne.symm ne17) (ninS ne27 nin0))).ext E41).other W53 (Ne.symm ne18)).keep Kl56 (ninS (Ne.symm ne17) (ninS ne43 nin0))).ext E59)
            obtain ⟨cl87, A87, S87, M87, G87⟩ := id F88
            have hin87 : ¬ (p3 < 0 ∨ cl87.slots.size ≤ (p3).toNatClampNeg) := inb_of S87 (own_ixr hcap ⟨hcap.1, Int.le_refl _⟩)
            have hat87 : cl87.slots[(p3).toNatClampNeg]? = some (.int (ut0 (p3).toNatClampNeg)) := AI.at S87 G87 hin87
            have pre89 : ∀ t, Steps p.tables e below (T59.setTop (mkF m 144 (Lq1n3 a1 a2 p3 b2 b5 (kI 0) (kR b59) (kI p3) (kI 0) kU kU) [(.int (ut0 (p3).toNatClampNeg))])) t → Steps p.tables e below (s₁.setTop (entryFrame m #[(.ref a1), (.ref a2), (.int p3)] 12)) t := fun t k => pre83 t (by
              show Steps _ _ _ (T59.setTop (mkF m 144 (Lq1n3 a1 a2 p3 b2 b5 (kI 0) (kR b59) (kI p3) (kI 1) kU kU) [(.int (ut1 (p3).toNatClampNeg))])) _
              refine XS.ifYes X59.here hx rfl (pc0 := 144) (pc' := 165) rfl (hb hby d1_144) rfl ((if0 _ _).trans (teq hc84).1) (by decide) (by decide) ?_
              refine XS.iinc X59.here hx rfl (hb hby d1_165) rfl (l' := (Lq1n3 a1 a2 p3 b2 b5 (kI 0) (kR b59) (kI p3) (kI 0) kU kU)) rfl ?_
              show Steps _ _ _ (T59.setTop (mkF m 168 (Lq1n3 a1 a2 p3 b2 b5 (kI 0) (kR b59) (kI p3) (kI 0) kU kU) [])) _
              refine XS.goto X59.here hx rfl (pc0 := 168) (pc' := 131) rfl (hb hby d1_168) (by decide) (by decide) ?_
              refine XS.iload X59.here hx rfl (hb hby d1_131) rfl ?_
              refine XS.ifNo X59.here hx rfl (hb hby d1_133) rfl ((if0 _ _).trans (flt (by decide : ¬ ((0 : Int32) < (0 : Int32)))).1) ?_
              show Steps _ _ _ (T59.setTop (mkF m 136 (Lq1n3 a1 a2 p3 b2 b5 (kI 0) (kR b59) (kI p3) (kI 0) kU kU) [])) _
              refine XS.aload X59.here hx rfl (hb hby d1_136) rfl rfl ?_
              refine XS.iload X59.here hx rfl (hb hby d1_138) rfl ?_
              refine X59.aaload hx (j := (0 : Int32)) (v := (.ref b11)) (by rw [e59]; exact A86.1) (State.isArrayOf_alike hZ.alike A86.2.1) rfl A86.2.2 hin86 hat86 (g := (mkF m 140 (Lq1n3 a1 a2 p3 b2 b5 (kI 0) (kR b59) (kI p3) (kI 0) kU kU) [(.int (0 : Int32)), (.ref b5)])) rfl rfl (hb hby d1_140) _ ?_
              refine XS.iload X59.here hx rfl (hb hby d1_141) rfl ?_
              refine X59.baloadBooleans hx (j := p3) (v := (.int (ut0 (p3).toNatClampNeg))) (by rw [e59]; exact A87.1) (State.isArrayOf_alike hZ.alike A87.2.1) A87.2.2 hin87 hat87 (g := (mkF m 143 (Lq1n3 a1 a2 p3 b2 b5 (kI 0) (kR b59) (kI p3) (kI 0) kU kU) [(.int p3), (.ref b11)])) rfl rfl (hb hby d1_143) _ ?_
              exact k)
            by_cases hc90 : (ut0 (p3).toNatClampNeg) = (0 : Int32)
            · have hT91 : own_tr ut0 s0 p3 false p3 := Or.inl ⟨rfl, hc90, rfl⟩
              obtain ⟨T92, h92, k92, X92, e92, E92, A92, st92⟩ := newP X59 hx hZ (hw _ (List.mem_of_getElem? (i := 0) rfl)) e59 (g := (mkF m 173 (Lq1n3 a1 a2 p3 b2 b5 (kI 0) (kR b59) (kI p3) (kI (-1)) kU kU) [(.int (0 : Int32))])) rfl (hb hby d1_173) rfl (by decide) (cap := 0) (by decide) (by decide) (by decide) (by decide)
              obtain ⟨b92, g92⟩ : ∃ z, z = h59.size := ⟨_, rfl⟩
              rw [← g92] at A92 st92
              have F93 := (F60.ext E59)
              have ne94 : b11 ≠ b92 := Nat.ne_of_lt (Nat.lt_of_lt_of_le F93.lt (Nat.le_of_eq g92.symm))
              have F95 := (F62.ext E59)
              have ne96 : b25 ≠ b92 := Nat.ne_of_lt (Nat.lt_of_lt_of_le F95.lt (Nat.le_of_eq g92.symm))
              have F97 := (F64.ext E59)
              have ne98 : b41 ≠ b92 := Nat.ne_of_lt (Nat.lt_of_lt_of_le F97.lt (Nat.le_of_eq g92.symm))
              have F99 := (F66.ext E59)
              have ne100 : a1 ≠ b92 := Nat.ne_of_lt (Nat.lt_of_lt_of_le F99.lt (Nat.le_of_eq g92.symm))
              have F101 := (F68.ext E59)
              have ne102 : a2 ≠ b92 := Nat.ne_of_lt (Nat.lt_of_lt_of_le F101.lt (Nat.le_of_eq g92.symm))
              have ne103 : b5 ≠ b92 := Nat.ne_of_lt (Nat.lt_of_lt_of_le F74.lt (Nat.le_of_eq g92.symm))
              have F104 := (Lf56_0.ext E59)
              have ne105 : b2 ≠ b92 := Nat.ne_of_lt (Nat.lt_of_lt_of_le F104.lt (Nat.le_of_eq g92.symm))
              have ne106 : b59 ≠ b92 := Nat.ne_of_lt (Nat.lt_of_lt_of_le V_b59.lt (Nat.le_of_eq g92.symm))
              have g_b92 : n0 ≤ b92 := Nat.le_trans (Nat.le_trans Z0 K59.1) (Nat.le_of_eq g92.symm)
              have sz_b92 : h0.size ≤ b92 := Nat.le_trans K59.1 (Nat.le_of_eq g92.symm)
              have K92 : Keep h0 h92 [] := K59.ext E92
              have V_b92 : AV Z h92 b92 .int (0 : Int32) [] := AV.new A92 (by decide)
              have F108 := (V_b59.ext E92)
              obtain ⟨cl107, A107, S107, Nl107, M107⟩ := id F108
              have hin107 : ¬ ((0 : Int32) < 0 ∨ cl107.slots.size ≤ ((0 : Int32)).toNatClampNeg) := AV.inb S107 Nl107 ⟨by decide, by decide⟩
              have hat107 : cl107.slots[((0 : Int32)).toNatClampNeg]? = some (.int (0 : Int32)) := AV.at S107 rfl
              obtain ⟨cl109, A109, S109, Nl109, M109⟩ := id F108
              have hin109 : ¬ ((1 : Int32) < 0 ∨ cl109.slots.size ≤ ((1 : Int32)).toNatClampNeg) := AV.inb S109 Nl109 ⟨by decide, by decide⟩
              have hat109 : cl109.slots[((1 : Int32)).toNatClampNeg]? = some (.int (0 : Int32)) := AV.at S109 rfl
              obtain ⟨cl110, A110, S110, Nl110, M110⟩ := id F108
              have hin110 : ¬ ((2 : Int32) < 0 ∨ cl110.slots.size ≤ ((2 : Int32)).toNatClampNeg) := AV.inb S110 Nl110 ⟨by decide, by decide⟩
              have hat110 : cl110.slots[((2 : Int32)).toNatClampNeg]? = some (.int (0 : Int32)) := AV.at S110 rfl
              obtain ⟨fs, hr, hrun, hended, hW, hsame⟩ := X92.leave (v := some (.ref b92)) (fun h => by rw [Bd.returns] at h; cases h) hlk
              refine ⟨_, _, pre89 _ ?_, hrun, hended, _, _, rfl, ?_, ⟨_, rfl⟩, hW, hsame.mono (by decide) (by decide)⟩
              · show Steps _ _ _ (T59.setTop (mkF m 144 (Lq1n3 a1 a2 p3 b2 b5 (kI 0) (kR b59) (kI p3) (kI 0) kU kU) [(.int (ut0 (p3).toNatClampNeg))])) _
                refine XS.ifYes X59.here hx rfl (pc0 := 144) (pc' := 165) rfl (hb hby d1_144) rfl ((if0 _ _).trans (teq hc90).1) (by decide) (by decide) ?_
                refine XS.iinc X59.here hx rfl (hb hby d1_165) rfl (l' := (Lq1n3 a1 a2 p3 b2 b5 (kI 0) (kR b59) (kI p3) (kI (-1)) kU kU)) rfl ?_
                refine XS.goto X59.here hx rfl (pc0 := 168) (pc' := 131) rfl (hb hby d1_168) (by decide) (by decide) ?_
                show Steps _ _ _ (T59.setTop (mkF m 131 (Lq1n3 a1 a2 p3 b2 b5 (kI 0) (kR b59) (kI p3) (kI (-1)) kU kU) [])) _
                refine XS.iload X59.here hx rfl (hb hby d1_131) rfl ?_
                refine XS.ifYes X59.here hx rfl (pc0 := 133) (pc' := 171) rfl (hb hby d1_133) rfl ((if0 _ _).trans (tlt (by decide : (-1 : Int32) < (0 : Int32))).1) (by decide) (by decide) ?_
                refine XS.iload X59.here hx rfl (hb hby d1_171) rfl ?_
                refine st92 _ ?_
                show Steps _ _ _ (T92.setTop (mkF m 175 (Lq1n3 a1 a2 p3 b2 b5 (kI 0) (kR b59) (kI p3) (kI (-1)) kU kU) [(.ref b92)])) _
                refine XS.astore X92.here hx rfl (hb hby d1_175) rfl rfl (l' := (Lq1n3 a1 a2 p3 b2 b5 (kI 0) (kR b59) (kI p3) (kR b92) kU kU)) rfl ?_
                refine XS.iconst X92.here hx rfl (hb hby d1_177) ?_
                refine XS.istore X92.here hx rfl (hb hby d1_178) rfl (l' := (Lq1n3 a1 a2 p3 b2 b5 (kI 0) (kR b59) (kI p3) (kR b92) (kI 0) kU)) rfl ?_
                show Steps _ _ _ (T92.setTop (mkF m 180 (Lq1n3 a1 a2 p3 b2 b5 (kI 0) (kR b59) (kI p3) (kR b92) (kI 0) kU) [])) _
                refine XS.iconst X92.here hx rfl (hb hby d1_180) ?_
                refine XS.istore X92.here hx rfl (hb hby d1_181) rfl (l' := (Lq1n3 a1 a2 p3 b2 b5 (kI 0) (kR b59) (kI p3) (kR b92) (kI 0) (kI 0))) rfl ?_
                refine XS.iload X92.here hx rfl (hb hby d1_183) rfl ?_
                show Steps _ _ _ (T92.setTop (mkF m 185 (Lq1n3 a1 a2 p3 b2 b5 (kI 0) (kR b59) (kI p3) (kR b92) (kI 0) (kI 0)) [(.int (0 : Int32))])) _
                refine XS.iloadN X92.here hx rfl (hb hby d1_185) rfl ?_
                refine XS.icmpNo X92.here hx rfl (hb hby d1_186) rfl (tlt (by decide : (0 : Int32) < (3 : Int32))).2.1 ?_
                refine XS.aload X92.here hx rfl (hb hby d1_189) rfl rfl ?_
                show Steps _ _ _ (T92.setTop (mkF m 191 (Lq1n3 a1 a2 p3 b2 b5 (kI 0) (kR b59) (kI p3) (kR b92) (kI 0) (kI 0)) [(.ref b59)])) _
                refine XS.iload X92.here hx rfl (hb hby d1_191) rfl ?_
                refine X92.baloadBooleans hx (j := (0 : Int32)) (v := (.int (0 : Int32))) (by rw [e92]; exact A107.1) (State.isArrayOf_alike hZ.alike A107.2.1) A107.2.2 hin107 hat107 (g := (mkF m 193 (Lq1n3 a1 a2 p3 b2 b5 (kI 0) (kR b59) (kI p3) (kR b92) (kI 0) (kI 0)) [(.int (0 : Int32)), (.ref b59)])) rfl rfl (hb hby d1_193) _ ?_
                refine XS.ifYes X92.here hx rfl (pc0 := 194) (pc' := 207) rfl (hb hby d1_194) rfl ((if0 _ _).trans (teq (rfl : (0 : Int32) = (0 : Int32))).1) (by decide) (by decide) ?_
                refine XS.iinc X92.here hx rfl (hb hby d1_207) rfl (l' := (Lq1n3 a1 a2 p3 b2 b5 (kI 0) (kR b59) (kI p3) (kR b92) (kI 0) (kI 1))) rfl ?_
                show Steps _ _ _ (T92.setTop (mkF m 210 (Lq1n3 a1 a2 p3 b2 b5 (kI 0) (kR b59) (kI p3) (kR b92) (kI 0) (kI 1)) [])) _
                refine XS.goto X92.here hx rfl (pc0 := 210) (pc' := 183) rfl (hb hby d1_210) (by decide) (by decide) ?_
                refine XS.iload X92.here hx rfl (hb hby d1_183) rfl ?_
                refine XS.iloadN X92.here hx rfl (hb hby d1_185) rfl ?_
                show Steps _ _ _ (T92.setTop (mkF m 186 (Lq1n3 a1 a2 p3 b2 b5 (kI 0) (kR b59) (kI p3) (kR b92) (kI 0) (kI 1)) [(.int (3 : Int32)), (.int (1 : Int32))])) _
                refine XS.icmpNo X92.here hx rfl (hb hby d1_186) rfl (tlt (by decide : (1 : Int32) < (3 : Int32))).2.1 ?_
                refine XS.aload X92.here hx rfl (hb hby d1_189) rfl rfl ?_
                refine XS.iload X92.here hx rfl (hb hby d1_191) rfl ?_
                refine X92.baloadBooleans hx (j := (1 : Int32)) (v := (.int (0 : Int32))) (by rw [e92]; exact A109.1) (State.isArrayOf_alike hZ.alike A109.2.1) A109.2.2 hin109 hat109 (g := (mkF m 193 (Lq1n3 a1 a2 p3 b2 b5 (kI 0) (kR b59) (kI p3) (kR b92) (kI 0) (kI 1)) [(.int (1 : Int32)), (.ref b59)])) rfl rfl (hb hby d1_193) _ ?_
                show Steps _ _ _ (T92.setTop (mkF m 194 (Lq1n3 a1 a2 p3 b2 b5 (kI 0) (kR b59) (kI p3) (kR b92) (kI 0) (kI 1)) [(.int (0 : Int32))])) _
                refine XS.ifYes X92.here hx rfl (pc0 := 194) (pc' := 207) rfl (hb hby d1_194) rfl ((if0 _ _).trans (teq (rfl : (0 : Int32) = (0 : Int32))).1) (by decide) (by decide) ?_
                refine XS.iinc X92.here hx rfl (hb hby d1_207) rfl (l' := (Lq1n3 a1 a2 p3 b2 b5 (kI 0) (kR b59) (kI p3) (kR b92) (kI 0) (kI 2))) rfl ?_
                refine XS.goto X92.here hx rfl (pc0 := 210) (pc' := 183) rfl (hb hby d1_210) (by decide) (by decide) ?_
                show Steps _ _ _ (T92.setTop (mkF m 183 (Lq1n3 a1 a2 p3 b2 b5 (kI 0) (kR b59) (kI p3) (kR b92) (kI 0) (kI 2)) [])) _
                refine XS.iload X92.here hx rfl (hb hby d1_183) rfl ?_
                refine XS.iloadN X92.here hx rfl (hb hby d1_185) rfl ?_
                refine XS.icmpNo X92.here hx rfl (hb hby d1_186) rfl (tlt (by decide : (2 : Int32) < (3 : Int32))).2.1 ?_
                show Steps _ _ _ (T92.setTop (mkF m 189 (Lq1n3 a1 a2 p3 b2 b5 (kI 0) (kR b59) (kI p3) (kR b92) (kI 0) (kI 2)) [])) _
                refine XS.aload X92.here hx rfl (hb hby d1_189) rfl rfl ?_
                refine XS.iload X92.here hx rfl (hb hby d1_191) rfl ?_
                refine X92.baloadBooleans hx (j := (2 : Int32)) (v := (.int (0 : Int32))) (by rw [e92]; exact A110.1) (State.isArrayOf_alike hZ.alike A110.2.1) A110.2.2 hin110 hat110 (g := (mkF m 193 (Lq1n3 a1 a2 p3 b2 b5 (kI 0) (kR b59) (kI p3) (kR b92) (kI 0) (kI 2)) [(.int (2 : Int32)), (.ref b59)])) rfl rfl (hb hby d1_193) _ ?_
                refine XS.ifYes X92.here hx rfl (pc0 := 194) (pc' := 207) rfl (hb hby d1_194) rfl ((if0 _ _).trans (teq (rfl : (0 : Int32) = (0 : Int32))).1) (by decide) (by decide) ?_
                show Steps _ _ _ (T92.setTop (mkF m 207 (Lq1n3 a1 a2 p3 b2 b5 (kI 0) (kR b59) (kI p3) (kR b92) (kI 0) (kI 2)) [])) _
                refine XS.iinc X92.here hx rfl (hb hby d1_207) rfl (l' := (Lq1n3 a1 a2 p3 b2 b5 (kI 0) (kR b59) (kI p3) (kR b92) (kI 0) (kI 3))) rfl ?_
                refine XS.goto X92.here hx rfl (pc0 := 210) (pc' := 183) rfl (hb hby d1_210) (by decide) (by decide) ?_
                refine XS.iload X92.here hx rfl (hb hby d1_183) rfl ?_
                show Steps _ _ _ (T92.setTop (mkF m 185 (Lq1n3 a1 a2 p3 b2 b5 (kI 0) (kR b59) (kI p3) (kR b92) (kI 0) (kI 3)) [(.int (3 : Int32))])) _
                refine XS.iloadN X92.here hx rfl (hb hby d1_185) rfl ?_
                refine XS.icmpYes X92.here hx rfl (pc0 := 186) (pc' := 213) rfl (hb hby d1_186) rfl (flt (by decide : ¬ ((3 : Int32) < (3 : Int32)))).2.1 (by decide) (by decide) ?_
                refine XS.aload X92.here hx rfl (hb hby d1_213) rfl rfl ?_
                show Steps _ _ _ (T92.setTop (mkF m 215 (Lq1n3 a1 a2 p3 b2 b5 (kI 0) (kR b59) (kI p3) (kR b92) (kI 0) (kI 3)) [(.ref b92)])) _
                jvm_step X92.here [X92.here.top, hx, (hb hby d1_215), X92.method', Bd.returns, Value.isRef, FieldType.isReference]
                first | (intro acts; rw [hr _ acts rfl rfl rfl]) | rw [hr _ _ rfl rfl rfl]
                exact Steps.refl _
              · show Q1n3 Z a1 a2 p3 s0 s1 s2 v0 v1 v2 h0 n0 _ T92.heap _
                rw [e92]
                exact ⟨b92, (0 : Int32), [], rfl, N56, K92, g_b92, sz_b92, V_b92, (Or.inl ⟨rfl, rfl, own_fin hcap hs0 hs1 hs2 hv0 hv1 hv2 hI0 hI1 hI2 hT79 hT85 hT91⟩)⟩
            · have hT112 : own_tr ut0 s0 p3 true (p3 - s0) := Or.inr ⟨rfl, hc90, rfl⟩
              have hr113 : own_rg (p3 - s0) p3 := own_rm0 hcap ⟨hcap.1, Int.le_refl _⟩ hs0 hI0 hc90
              obtain ⟨cl114, A114, S114, Nl114, M114⟩ := id V_b59
              have hin114 : ¬ ((0 : Int32) < 0 ∨ cl114.slots.size ≤ ((0 : Int32)).toNatClampNeg) := AV.inb S114 Nl114 ⟨by decide, by decide⟩
              obtain ⟨T114, h114, X114, e114, W114, st114⟩ := stZ X59 hx hZ e59 A114 (j := (0 : Int32)) hin114 (g := (mkF m 152 (Lq1n3 a1 a2 p3 b2 b5 (kI 0) (kR b59) (kI p3) (kI 0) kU kU) [(.int (1 : Int32)), (.int (0 : Int32)), (.ref b59)])) rfl rfl (hb hby d1_152)
              have V114 : AV Z h114 b59 .boolean (3 : Int32) [(.int (1 : Int32)), (.int (0 : Int32)), (.int (0 : Int32))] := AV.set A114 S114 Nl114 M114 W114
              have K114 : Keep h0 h114 [] := K59.wr W114 (Or.inr sz_b59)
              have N114 := Fr.snoc X114 N56 g_b59
              have F116 := ((F66.ext E59).other W114 ne67)
              obtain ⟨cl115, A115, S115, Nl115, M115⟩ := id F116
              have hin115 : ¬ ((0 : Int32) < 0 ∨ cl115.slots.size ≤ ((0 : Int32)).toNatClampNeg) := AV.inb S115 Nl115 ⟨by decide, by decide⟩
              have hat115 : cl115.slots[((0 : Int32)).toNatClampNeg]? = some (.int s0) := AV.at S115 rfl
              obtain ⟨T117, h117, k117, X117, e117, E117, A117, st117⟩ := newP X114 hx hZ (hw _ (List.mem_of_getElem? (i := 0) rfl)) e114 (g := (mkF m 173 (Lq1n3 a1 a2 p3 b2 b5 (kI 1) (kR b59) (kI (p3 - s0)) (kI (-1)) kU kU) [(.int (1 : Int32))])) rfl (hb hby d1_173) rfl (by decide) (cap := 1) (by decide) (by decide) (by decide) (by decide)
              obtain ⟨b117, g117⟩ : ∃ z, z = h114.size := ⟨_, rfl⟩
              rw [← g117] at A117 st117
              have F118 := ((F60.ext E59).wr W114)
              have ne119 : b11 ≠ b117 := Nat.ne_of_lt (Nat.lt_of_lt_of_le F118.lt (Nat.le_of_eq g117.symm))
              have F120 := ((F62.ext E59).wr W114)
              have ne121 : b25 ≠ b117 := Nat.ne_of_lt (Nat.lt_of_lt_of_le F120.lt (Nat.le_of_eq g117.symm))
              have F122 := ((F64.ext E59).wr W114)
              have ne123 : b41 ≠ b117 := Nat.ne_of_lt (Nat.lt_of_lt_of_le F122.lt (Nat.le_of_eq g117.symm))
              have ne124 : a1 ≠ b117 := Nat.ne_of_lt (Nat.lt_of_lt_of_le F116.lt (Nat.le_of_eq g117.symm))
              have F125 := ((F68.ext E59).other W114 ne69)
              have ne126 : a2 ≠ b117 := Nat.ne_of_lt (Nat.lt_of_lt_of_le F125.lt (Nat.le_of_eq g117.symm))
              have F127 := (F74.other W114 ne71)
              have ne128 : b5 ≠ b117 := Nat.ne_of_lt (Nat.lt_of_lt_of_le F127.lt (Nat.le_of_eq g117.symm))
              have F129 := ((Lf56_0.ext E59).other W114 ne72)
              have ne130 : b2 ≠ b117 := Nat.ne_of_lt (Nat.lt_of_lt_of_le F129.lt (Nat.le_of_eq g117.symm))
              have ne131 : b59 ≠ b117 := Nat.ne_of_lt (Nat.lt_of_lt_of_le V114.lt (Nat.le_of_eq g117.symm))
              have g_b117 : n0 ≤ b117 := Nat.le_trans (Nat.le_trans Z0 K114.1) (Nat.le_of_eq g117.symm)
              have sz_b117 : h0.size ≤ b117 := Nat.le_trans K114.1 (Nat.le_of_eq g117.symm)
              have K117 : Keep h0 h117 [] := K114.ext E117
              have V_b117 : AV Z h117 b117 .int (1 : Int32) [(.int (0 : Int32))] := AV.new A117 (by decide)
              have F133 := (V114.ext E117)
              obtain ⟨cl132, A132, S132, Nl132, M132⟩ := id F133
              have hin132 : ¬ ((0 : Int32) < 0 ∨ cl132.slots.size ≤ ((0 : Int32)).toNatClampNeg) := AV.inb S132 Nl132 ⟨by decide, by decide⟩
              have hat132 : cl132.slots[((0 : Int32)).toNatClampNeg]? = some (.int (1 : Int32)) := AV.at S132 rfl
              obtain ⟨cl134, A134, S134, Nl134, M134⟩ := id V_b117
              have hin134 : ¬ ((0 : Int32) < 0 ∨ cl134.slots.size ≤ ((0 : Int32)).toNatClampNeg) := AV.inb S134 Nl134 ⟨by decide, by decide⟩
              obtain ⟨T134, h134, X134, e134, W134, st134⟩ := stI X117 hx hZ e117 A134 (j := (0 : Int32)) hin134 (g := (mkF m 206 (Lq1n3 a1 a2 p3 b2 b5 (kI 1) (kR b59) (kI (p3 - s0)) (kR b117) (kI 1) (kI 0)) [(.int (0 : Int32)), (.int (0 : Int32)), (.ref b117)])) rfl rfl (hb hby d1_206)
              have V134 : AV Z h134 b117 .int (1 : Int32) [(.int (0 : Int32))] := AV.set A134 S134 Nl134 M134 W134
              have K134 : Keep h0 h134 [] := K117.wr W134 (Or.inr sz_b117)
              have N134 := Fr.snoc X134 N114 g_b117
              have F136 := (F133.other W134 ne131)
              obtain ⟨cl135, A135, S135, Nl135, M135⟩ := id F136
              have hin135 : ¬ ((1 : Int32) < 0 ∨ cl135.slots.size ≤ ((1 : Int32)).toNatClampNeg) := AV.inb S135 Nl135 ⟨by decide, by decide⟩
              have hat135 : cl135.slots[((1 : Int32)).toNatClampNeg]? = some (.int (0 : Int32)) := AV.at S135 rfl
              obtain ⟨cl137, A137, S137, Nl137, M137⟩ := id F136
              have hin137 : ¬ ((2 : Int32) < 0 ∨ cl137.slots.size ≤ ((2 : Int32)).toNatClampNeg) := AV.inb S137 Nl137 ⟨by decide, by decide⟩
              have hat137 : cl137.slots[((2 : Int32)).toNatClampNeg]? = some (.int (0 : Int32)) := AV.at S137 rfl
              obtain ⟨fs, hr, hrun, hended, hW, hsame⟩ := X134.leave (v := some (.ref b117)) (fun h => by rw [Bd.returns] at h; cases h) hlk
              refine ⟨_, _, pre89 _ ?_, hrun, hended, _, _, rfl, ?_, ⟨_, rfl⟩, hW, hsame.mono (by decide) (by decide)⟩
              · show Steps _ _ _ (T59.setTop (mkF m 144 (Lq1n3 a1 a2 p3 b2 b5 (kI 0) (kR b59) (kI p3) (kI 0) kU kU) [(.int (ut0 (p3).toNatClampNeg))])) _
                refine XS.ifNo X59.here hx rfl (hb hby d1_144) rfl ((if0 _ _).trans (feq hc90).1) ?_
                refine XS.aload X59.here hx rfl (hb hby d1_147) rfl rfl ?_
                refine XS.iload X59.here hx rfl (hb hby d1_149) rfl ?_
                show Steps _ _ _ (T59.setTop (mkF m 151 (Lq1n3 a1 a2 p3 b2 b5 (kI 0) (kR b59) (kI p3) (kI 0) kU kU) [(.int (0 : Int32)), (.ref b59)])) _
                refine XS.iconst X59.here hx rfl (hb hby d1_151) ?_
                refine st114 _ ?_
                refine XS.iinc X114.here hx rfl (hb hby d1_153) rfl (l' := (Lq1n3 a1 a2 p3 b2 b5 (kI 1) (kR b59) (kI p3) (kI 0) kU kU)) rfl ?_
                refine XS.iload X114.here hx rfl (hb hby d1_156) rfl ?_
                show Steps _ _ _ (T114.setTop (mkF m 158 (Lq1n3 a1 a2 p3 b2 b5 (kI 1) (kR b59) (kI p3) (kI 0) kU kU) [(.int p3)])) _
                refine XS.aloadN X114.here hx rfl (hb hby d1_158) rfl rfl ?_
                refine XS.iload X114.here hx rfl (hb hby d1_159) rfl ?_
                refine X114.iaload hx (j := (0 : Int32)) (v := (.int s0)) (by rw [e114]; exact A115.1) (State.isArrayOf_alike hZ.alike A115.2.1) A115.2.2 hin115 hat115 (g := (mkF m 161 (Lq1n3 a1 a2 p3 b2 b5 (kI 1) (kR b59) (kI p3) (kI 0) kU kU) [(.int (0 : Int32)), (.ref a1), (.int p3)])) rfl rfl (hb hby d1_161) _ ?_
                refine XS.isub X114.here hx rfl (hb hby d1_162) rfl ?_
                show Steps _ _ _ (T114.setTop (mkF m 163 (Lq1n3 a1 a2 p3 b2 b5 (kI 1) (kR b59) (kI p3) (kI 0) kU kU) [(.int (p3 - s0))])) _
                refine XS.istore X114.here hx rfl (hb hby d1_163) rfl (l' := (Lq1n3 a1 a2 p3 b2 b5 (kI 1) (kR b59) (kI (p3 - s0)) (kI 0) kU kU)) rfl ?_
                refine XS.iinc X114.here hx rfl (hb hby d1_165) rfl (l' := (Lq1n3 a1 a2 p3 b2 b5 (kI 1) (kR b59) (kI (p3 - s0)) (kI (-1)) kU kU)) rfl ?_
                refine XS.goto X114.here hx rfl (pc0 := 168) (pc' := 131) rfl (hb hby d1_168) (by decide) (by decide) ?_
                show Steps _ _ _ (T114.setTop (mkF m 131 (Lq1n3 a1 a2 p3 b2 b5 (kI 1) (kR b59) (kI (p3 - s0)) (kI (-1)) kU kU) [])) _
                refine XS.iload X114.here hx rfl (hb hby d1_131) rfl ?_
                refine XS.ifYes X114.here hx rfl (pc0 := 133) (pc' := 171) rfl (hb hby d1_133) rfl ((if0 _ _).trans (tlt (by decide : (-1 : Int32) < (0 : Int32))).1) (by decide) (by decide) ?_
                refine XS.iload X114.here hx rfl (hb hby d1_171) rfl ?_
                refine st117 _ ?_
                show Steps _ _ _ (T117.setTop (mkF m 175 (Lq1n3 a1 a2 p3 b2 b5 (kI 1) (kR b59) (kI (p3 - s0)) (kI (-1)) kU kU) [(.ref b117)])) _
                refine XS.astore X117.here hx rfl (hb hby d1_175) rfl rfl (l' := (Lq1n3 a1 a2 p3 b2 b5 (kI 1) (kR b59) (kI (p3 - s0)) (kR b117) kU kU)) rfl ?_
                refine XS.iconst X117.here hx rfl (hb hby d1_177) ?_
                refine XS.istore X117.here hx rfl (hb hby d1_178) rfl (l' := (Lq1n3 a1 a2 p3 b2 b5 (kI 1) (kR b59) (kI (p3 - s0)) (kR b117) (kI 0) kU)) rfl ?_
                show Steps _ _ _ (T117.setTop (mkF m 180 (Lq1n3 a1 a2 p3 b2 b5 (kI 1) (kR b59) (kI (p3 - s0)) (kR b117) (kI 0) kU) [])) _
                refine XS.iconst X117.here hx rfl (hb hby d1_180) ?_
                refine XS.istore X117.here hx rfl (hb hby d1_181) rfl (l' := (Lq1n3 a1 a2 p3 b2 b5 (kI 1) (kR b59) (kI (p3 - s0)) (kR b117) (kI 0) (kI 0))) rfl ?_
                refine XS.iload X117.here hx rfl (hb hby d1_183) rfl ?_
                show Steps _ _ _ (T117.setTop (mkF m 185 (Lq1n3 a1 a2 p3 b2 b5 (kI 1) (kR b59) (kI (p3 - s0)) (kR b117) (kI 0) (kI 0)) [(.int (0 : Int32))])) _
                refine XS.iloadN X117.here hx rfl (hb hby d1_185) rfl ?_
                refine XS.icmpNo X117.here hx rfl (hb hby d1_186) rfl (tlt (by decide : (0 : Int32) < (3 : Int32))).2.1 ?_
                refine XS.aload X117.here hx rfl (hb hby d1_189) rfl rfl ?_
                show Steps _ _ _ (T117.setTop (mkF m 191 (Lq1n3 a1 a2 p3 b2 b5 (kI 1) (kR b59) (kI (p3 - s0)) (kR b117) (kI 0) (kI 0)) [(.ref b59)])) _
                refine XS.iload X117.here hx rfl (hb hby d1_191) rfl ?_
                refine X117.baloadBooleans hx (j := (0 : Int32)) (v := (.int (1 : Int32))) (by rw [e117]; exact A132.1) (State.isArrayOf_alike hZ.alike A132.2.1) A132.2.2 hin132 hat132 (g := (mkF m 193 (Lq1n3 a1 a2 p3 b2 b5 (kI 1) (kR b59) (kI (p3 - s0)) (kR b117) (kI 0) (kI 0)) [(.int (0 : Int32)), (.ref b59)])) rfl rfl (hb hby d1_193) _ ?_
                refine XS.ifNo X117.here hx rfl (hb hby d1_194) rfl ((if0 _ _).trans (feq (by decide : ¬ ((1 : Int32) = (0 : Int32)))).1) ?_
                refine XS.aload X117.here hx rfl (hb hby d1_197) rfl rfl ?_
                show Steps _ _ _ (T117.setTop (mkF m 199 (Lq1n3 a1 a2 p3 b2 b5 (kI 1) (kR b59) (kI (p3 - s0)) (kR b117) (kI 0) (kI 0)) [(.ref b117)])) _
                refine XS.iload X117.here hx rfl (hb hby d1_199) rfl ?_
                refine XS.iinc X117.here hx rfl (hb hby d1_201) rfl (l' := (Lq1n3 a1 a2 p3 b2 b5 (kI 1) (kR b59) (kI (p3 - s0)) (kR b117) (kI 1) (kI 0))) rfl ?_
                refine XS.iload X117.here hx rfl (hb hby d1_204) rfl ?_
                refine st134 _ ?_
                show Steps _ _ _ (T134.setTop (mkF m 207 (Lq1n3 a1 a2 p3 b2 b5 (kI 1) (kR b59) (kI (p3 - s0)) (kR b117) (kI 1) (kI 0)) [])) _
                refine XS.iinc X134.here hx rfl (hb hby d1_207) rfl (l' := (Lq1n3 a1 a2 p3 b2 b5 (kI 1) (kR b59) (kI (p3 - s0)) (kR b117) (kI 1) (kI 1))) rfl ?_
                refine XS.goto X134.here hx rfl (pc0 := 210) (pc' := 183) rfl (hb hby d1_210) (by decide) (by decide) ?_
                refine XS.iload X134.here hx rfl (hb hby d1_183) rfl ?_
                show Steps _ _ _ (T134.setTop (mkF m 185 (Lq1n3 a1 a2 p3 b2 b5 (kI 1) (kR b59) (kI (p3 - s0)) (kR b117) (kI 1) (kI 1)) [(.int (1 : Int32))])) _
                refine XS.iloadN X134.here hx rfl (hb hby d1_185) rfl ?_
                refine XS.icmpNo X134.here hx rfl (hb hby d1_186) rfl (tlt (by decide : (1 : Int32) < (3 : Int32))).2.1 ?_
                refine XS.aload X134.here hx rfl (hb hby d1_189) rfl rfl ?_
                show Steps _ _ _ (T134.setTop (mkF m 191 (Lq1n3 a1 a2 p3 b2 b5 (kI 1) (kR b59) (kI (p3 - s0)) (kR b117) (kI 1) (kI 1)) [(.ref b59)])) _
                refine XS.iload X134.here hx rfl (hb hby d1_191) rfl ?_
                refine X134.baloadBooleans hx (j := (1 : Int32)) (v := (.int (0 : Int32))) (by rw [e134]; exact A135.1) (State.isArrayOf_alike hZ.alike A135.2.1) A135.2.2 hin135 hat135 (g := (mkF m 193 (Lq1n3 a1 a2 p3 b2 b5 (kI 1) (kR b59) (kI (p3 - s0)) (kR b117) (kI 1) (kI 1)) [(.int (1 : Int32)), (.ref b59)])) rfl rfl (hb hby d1_193) _ ?_
                refine XS.ifYes X134.here hx rfl (pc0 := 194) (pc' := 207) rfl (hb hby d1_194) rfl ((if0 _ _).trans (teq (rfl : (0 : Int32) = (0 : Int32))).1) (by decide) (by decide) ?_
                refine XS.iinc X134.here hx rfl (hb hby d1_207) rfl (l' := (Lq1n3 a1 a2 p3 b2 b5 (kI 1) (kR b59) (kI (p3 - s0)) (kR b117) (kI 1) (kI 2))) rfl ?_
                show Steps _ _ _ (T134.setTop (mkF m 210 (Lq1n3 a1 a2 p3 b2 b5 (kI 1) (kR b59) (kI (p3 - s0)) (kR b117) (kI 1) (kI 2)) [])) _
                refine XS.goto X134.here hx rfl (pc0 := 210) (pc' := 183) rfl (hb hby d1_210) (by decide) (by decide) ?_
                refine XS.iload X134.here hx rfl (hb hby d1_183) rfl ?_
                refine XS.iloadN X134.here hx rfl (hb hby d1_185) rfl ?_
                show Steps _ _ _ (T134.setTop (mkF m 186 (Lq1n3 a1 a2 p3 b2 b5 (kI 1) (kR b59) (kI (p3 - s0)) (kR b117) (kI 1) (kI 2)) [(.int (3 : Int32)), (.int (2 : Int32))])) _
                refine XS.icmpNo X134.here hx rfl (hb hby d1_186) rfl (tlt (by decide : (2 : Int32) < (3 : Int32))).2.1 ?_
                refine XS.aload X134.here hx rfl (hb hby d1_189) rfl rfl ?_
                refine XS.iload X134.here hx rfl (hb hby d1_191) rfl ?_
                refine X134.baloadBooleans hx (j := (2 : Int32)) (v := (.int (0 : Int32))) (by rw [e134]; exact A137.1) (State.isArrayOf_alike hZ.alike A137.2.1) A137.2.2 hin137 hat137 (g := (mkF m 193 (Lq1n3 a1 a2 p3 b2 b5 (kI 1) (kR b59) (kI (p3 - s0)) (kR b117) (kI 1) (kI 2)) [(.int (2 : Int32)), (.ref b59)])) rfl rfl (hb hby d1_193) _ ?_
                show Steps _ _ _ (T134.setTop (mkF m 194 (Lq1n3 a1 a2 p3 b2 b5 (kI 1) (kR b59) (kI (p3 - s0)) (kR b117) (kI 1) (kI 2)) [(.int (0 : Int32))])) _
                refine XS.ifYes X134.here hx rfl (pc0 := 194) (pc' := 207) rfl (hb hby d1_194) rfl ((if0 _ _).trans (teq (rfl : (0 : Int32) = (0 : Int32))).1) (by decide) (by decide) ?_
                refine XS.iinc X134.here hx rfl (hb hby d1_207) rfl (l' := (Lq1n3 a1 a2 p3 b2 b5 (kI 1) (kR b59) (kI (p3 - s0)) (kR b117) (kI 1) (kI 3))) rfl ?_
                refine XS.goto X134.here hx rfl (pc0 := 210) (pc' := 183) rfl (hb hby d1_210) (by decide) (by decide) ?_
                show Steps _ _ _ (T134.setTop (mkF m 183 (Lq1n3 a1 a2 p3 b2 b5 (kI 1) (kR b59) (kI (p3 - s0)) (kR b117) (kI 1) (kI 3)) [])) _
                refine XS.iload X134.here hx rfl (hb hby d1_183) rfl ?_
                refine XS.iloadN X134.here hx rfl (hb hby d1_185) rfl ?_
                refine XS.icmpYes X134.here hx rfl (pc0 := 186) (pc' := 213) rfl (hb hby d1_186) rfl (flt (by decide : ¬ ((3 : Int32) < (3 : Int32)))).2.1 (by decide) (by decide) ?_
                show Steps _ _ _ (T134.setTop (mkF m 213 (Lq1n3 a1 a2 p3 b2 b5 (kI 1) (kR b59) (kI (p3 - s0)) (kR b117) (kI 1) (kI 3)) [])) _
                refine XS.aload X134.here hx rfl (hb hby d1_213) rfl rfl ?_
                show Steps _ _ _ (T134.setTop (mkF m 215 (Lq1n3 a1 a2 p3 b2 b5 (kI 1) (kR b59) (kI (p3 - s0)) (kR b117) (kI 1) (kI 3)) [(.ref b117)])) _
                jvm_step X134.here [X134.here.top, hx, (hb hby d1_215), X134.method', Bd.returns, Value.isRef, FieldType.isReference]
                first | (intro acts; rw [hr _ acts rfl rfl rfl]) | rw [hr _ _ rfl rfl rfl]
                exact Steps.refl _
              · show Q1n3 Z a1 a2 p3 s0 s1 s2 v0 v1 v2 h0 n0 _ T134.heap _
                rw [e134]
                exact ⟨b117, (1 : Int32), [.int (0 : Int32)], rfl, N134, K134, g_b117, sz_b117, V134, (Or.inr (Or.inl ⟨rfl, rfl, own_fin hcap hs0 hs1 hs2 hv0 hv1 hv2 hI0 hI1 hI2 hT79 hT85 hT112⟩))⟩
          · have hT139 : own_tr ut1 s1 p3 true (p3 - s1) := Or.inr ⟨rfl, hc84, rfl⟩
            have hr140 : own_rg (p3 - s1) p3 := own_rm0 hcap ⟨hcap.1, Int.le_refl _⟩ hs1 hI1 hc84
            obtain ⟨cl141, A141, S141, Nl141, M141⟩ := id V_b59
            have hin141 : ¬ ((1 : Int32) < 0 ∨ cl141.slots.size ≤ ((1 : Int32)).toNatClampNeg) := AV.inb S141 Nl141 ⟨by decide, by decide⟩
            obtain ⟨T141, h141, X141, e141, W141, st141⟩ := stZ X59 hx hZ e59 A141 (j := (1 : Int32)) hin141 (g := (mkF m 152 (Lq1n3 a1 a2 p3 b2 b5 (kI 0) (kR b59) (kI p3) (kI 1) kU kU) [(.int (1 : Int32)), (.int (1 : Int32)), (.ref b59)])) rfl rfl (hb hby d1_152)
            have V141 : AV Z h141 b59 .boolean (3 : Int32) [(.int (0 : Int32)), (.int (1 : Int32)), (.int (0 : Int32))] := AV.set A141 S141 Nl141 M141 W141
            have K141 : Keep h0 h141 [] := K59.wr W141 (Or.inr sz_b59)
            have N141 := Fr.snoc X141 N56 g_b59
            have F143 := ((F66.ext E59).other W141 ne67)
            obtain ⟨cl142, A142, S142, Nl142, M142⟩ := id F143
            have hin142 : ¬ ((1 : Int32) < 0 ∨ cl142.slots.size ≤ ((1 : Int32)).toNatClampNeg) := AV.inb S142 Nl142 ⟨by decide, by decide⟩
            have hat142 : cl142.slots[((1 : Int32)).toNatClampNeg]? = some (.int s1) := AV.at S142 rfl
            have F145 := (F74.other W141 ne71)
            obtain ⟨cl144, A144, S144, Nl144, M144⟩ := id F145
            have hin144 : ¬ ((0 : Int32) < 0 ∨ cl144.slots.size ≤ ((0 : Int32)).toNatClampNeg) := AV.inb S144 Nl144 ⟨by decide, by decide⟩
            have hat144 : cl144.slots[((0 : Int32)).toNatClampNeg]? = some (.ref b11) := AV.at S144 rfl
            have F147 := ((((((((Lf22_1.ext E25).other W35 (Ne.symm ne18)).keep Kl38 (ninS (Ne.symm ne17) (ninS ne27 nin0))).ext E41).other W53 (Ne.symm ne18)).keep Kl56 (ninS (Ne.symm ne17) (ninS ne43 nin0))).ext E59).other W141 ne61)
            obtain ⟨cl146, A146, S146, M146, G146⟩ := id F147
            have hin146 : ¬ ((p3 - s1) < 0 ∨ cl146.slots.size ≤ ((p3 - s1)).toNatClampNeg) := inb_of S146 (own_ixr hcap hr140)
            have hat146 : cl146.slots[((p3 - s1)).toNatClampNeg]? = some (.int (ut0 ((p3 - s1)).toNatClampNeg)) := AI.at S146 G146 hin146
            have pre148 : ∀ t, Steps p.tables e below (T141.setTop (mkF m 144 (Lq1n3 a1 a2 p3 b2 b5 (kI 1) (kR b59) (kI (p3 - s1)) (kI 0) kU kU) [(.int (ut0 ((p3 - s1)).toNatClampNeg))])) t → Steps p.tables e below (s₁.setTop (entryFrame m #[(.ref a1), (.ref a2), (.int p3)] 12)) t := fun t k => pre83 t (by
              show Steps _ _ _ (T59.setTop (mkF m 144 (Lq1n3 a1 a2 p3 b2 b5 (kI 0) (kR b59) (kI p3) (kI 1) kU kU) [(.int (ut1 (p3).toNatClampNeg))])) _
              refine XS.ifNo X59.here hx rfl (hb hby d1_144) rfl ((if0 _ _).trans (feq hc84).1) ?_
              refine XS.aload X59.here hx rfl (hb hby d1_147) rfl rfl ?_
              show Steps _ _ _ (T59.setTop (mkF m 149 (Lq1n3 a1 a2 p3 b2 b5 (kI 0) (kR b59) (kI p3) (kI 1) kU kU) [(.ref b59)])) _
              refine XS.iload X59.here hx rfl (hb hby d1_149) rfl ?_
              refine XS.iconst X59.here hx rfl (hb hby d1_151) ?_
              refine st141 _ ?_
              refine XS.iinc X141.here hx rfl (hb hby d1_153) rfl (l' := (Lq1n3 a1 a2 p3 b2 b5 (kI 1) (kR b59) (kI p3) (kI 1) kU kU)) rfl ?_
              show Steps _ _ _ (T141.setTop (mkF m 156 (Lq1n3 a1 a2 p3 b2 b5 (kI 1) (kR b59) (kI p3) (kI 1) kU kU) [])) _
              refine XS.iload X141.here hx rfl (hb hby d1_156) rfl ?_
              refine XS.aloadN X141.here hx rfl (hb hby d1_158) rfl rfl ?_
              refine XS.iload X141.here hx rfl (hb hby d1_159) rfl ?_
              refine X141.iaload hx (j := (1 : Int32)) (v := (.int s1)) (by rw [e141]; exact A142.1) (State.isArrayOf_alike hZ.alike A142.2.1) A142.2.2 hin142 hat142 (g := (mkF m 161 (Lq1n3 a1 a2 p3 b2 b5 (kI 1) (kR b59) (kI p3) (kI 1) kU kU) [(.int (1 : Int32)), (.ref a1), (.int p3)])) rfl rfl (hb hby d1_161) _ ?_
              show Steps _ _ _ (T141.setTop (mkF m 162 (Lq1n3 a1 a2 p3 b2 b5 (kI 1) (kR b59) (kI p3) (kI 1) kU kU) [(.int s1), (.int p3)])) _
              refine XS.isub X141.here hx rfl (hb hby d1_162) rfl ?_
              refine XS.istore X141.here hx rfl (hb hby d1_163) rfl (l' := (Lq1n3 a1 a2 p3 b2 b5 (kI 1) (kR b59) (kI (p3 - s1)) (kI 1) kU kU)) rfl ?_
              refine XS.iinc X141.here hx rfl (hb hby d1_165) rfl (l' := (Lq1n3 a1 a2 p3 b2 b5 (kI 1) (kR b59) (kI (p3 - s1)) (kI 0) kU kU)) rfl ?_
              show Steps _ _ _ (T141.setTop (mkF m 168 (Lq1n3 a1 a2 p3 b2 b5 (kI 1) (kR b59) (kI (p3 - s1)) (kI 0) kU kU) [])) _
              refine XS.goto X141.here hx rfl (pc0 := 168) (pc' := 131) rfl (hb hby d1_168) (by decide) (by decide) ?_
              refine XS.iload X141.here hx rfl (hb hby d1_131) rfl ?_
              refine XS.ifNo X141.here hx rfl (hb hby d1_133) rfl ((if0 _ _).trans (flt (by decide : ¬ ((0 : Int32) < (0 : Int32)))).1) ?_
              show Steps _ _ _ (T141.setTop (mkF m 136 (Lq1n3 a1 a2 p3 b2 b5 (kI 1) (kR b59) (kI (p3 - s1)) (kI 0) kU kU) [])) _
              refine XS.aload X141.here hx rfl (hb hby d1_136) rfl rfl ?_
              refine XS.iload X141.here hx rfl (hb hby d1_138) rfl ?_
              refine X141.aaload hx (j := (0 : Int32)) (v := (.ref b11)) (by rw [e141]; exact A144.1) (State.isArrayOf_alike hZ.alike A144.2.1) rfl A144.2.2 hin144 hat144 (g := (mkF m 140 (Lq1n3 a1 a2 p3 b2 b5 (kI 1) (kR b59) (kI (p3 - s1)) (kI 0) kU kU) [(.int (0 : Int32)), (.ref b5)])) rfl rfl (hb hby d1_140) _ ?_
              refine XS.iload X141.here hx rfl (hb hby d1_141) rfl ?_
              refine X141.baloadBooleans hx (j := (p3 - s1)) (v := (.int (ut0 ((p3 - s1)).toNatClampNeg))) (by rw [e141]; exact A146.1) (State.isArrayOf_alike hZ.alike A146.2.1) A146.2.2 hin146 hat146 (g := (mkF m 143 (Lq1n3 a1 a2 p3 b2 b5 (kI 1) (kR b59) (kI (p3 - s1)) (kI 0) kU kU) [(.int (p3 - s1)), (.ref b11)])) rfl rfl (hb hby d1_143) _ ?_
              exact k)
            by_cases hc149 : (ut0 ((p3 - s1)).toNatClampNeg) = (0 : Int32)
            · have hT150 : own_tr ut0 s0 (p3 - s1) false (p3 - s1) := Or.inl ⟨rfl, hc149, rfl⟩
              obtain ⟨T151, h151, k151, X151, e151, E151, A151, st151⟩ := newP X141 hx hZ (hw _ (List.mem_of_getElem? (i := 0) rfl)) e141 (g := (mkF m 173 (Lq1n3 a1 a2 p3 b2 b5 (kI 1) (kR b59) (kI (p3 - s1)) (kI (-1)) kU kU) [(.int (1 : Int32))])) rfl (hb hby d1_173) rfl (by decide) (cap := 1) (by decide) (by decide) (by decide) (by decide)
              obtain ⟨b151, g151⟩ : ∃ z, z = h141.size := ⟨_, rfl⟩
              rw [← g151] at A151 st151
              have F152 := ((F60.ext E59).wr W141)
              have ne153 : b11 ≠ b151 := Nat.ne_of_lt (Nat.lt_of_lt_of_le F152.lt (Nat.le_of_eq g151.symm))
              have F154 := ((F62.ext E59).wr W141)
              have ne155 : b25 ≠ b151 := Nat.ne_of_lt (Nat.lt_of_lt_of_le F154.lt (Nat.le_of_eq g151.symm))
              have F156 := ((F64.ext E59).wr W141)
              have ne157 : b41 ≠ b151 := Nat.ne_of_lt (Nat.lt_of_lt_of_le F156.lt (Nat.le_of_eq g151.symm))
              have ne158 : a1 ≠ b151 := Nat.ne_of_lt (Nat.lt_of_lt_of_le F143.lt (Nat.le_of_eq g151.symm))
              have F159 := ((F68.ext E59).other W141 ne69)
              have ne160 : a2 ≠ b151 := Nat.ne_of_lt (Nat.lt_of_lt_of_le F159.lt (Nat.le_of_eq g151.symm))
              have ne161 : b5 ≠ b151 := Nat.ne_of_lt (Nat.lt_of_lt_of_le F145.lt (Nat.le_of_eq g151.symm))
              have F162 := ((Lf56_0.ext E59).other W141 ne72)
              have ne163 : b2 ≠ b151 := Nat.ne_of_lt (Nat.lt_of_lt_of_le F162.lt (Nat.le_of_eq g151.symm))
              have ne164 : b59 ≠ b151 := Nat.ne_of_lt (Nat.lt_of_lt_of_le V141.lt (Nat.le_of_eq g151.symm))
              have g_b151 : n0 ≤ b151 := Nat.le_trans (Nat.le_trans Z0 K141.1) (Nat.le_of_eq g151.symm)
              have sz_b151 : h0.size ≤ b151 := Nat.le_trans K141.1 (Nat.le_of_eq g151.symm)
              have K151 : Keep h0 h151 [] := K141.ext E151
              have V_b151 : AV Z h151 b151 .int (1 : Int32) [(.int (0 : Int32))] := AV.new A151 (by decide)
              have F166 := (V141.ext E151)
              obtain ⟨cl165, A165, S165, Nl165, M165⟩ := id F166
              have hin165 : ¬ ((0 : Int32) < 0 ∨ cl165.slots.size ≤ ((0 : Int32)).toNatClampNeg) := AV.inb S165 Nl165 ⟨by decide, by decide⟩
              have hat165 : cl165.slots[((0 : Int32)).toNatClampNeg]? = some (.int (0 : Int32)) := AV.at S165 rfl
              obtain ⟨cl167, A167, S167, Nl167, M167⟩ := id F166
              have hin167 : ¬ ((1 : Int32) < 0 ∨ cl167.slots.size ≤ ((1 : Int32)).toNatClampNeg) := AV.inb S167 Nl167 ⟨by decide, by decide⟩
              have hat167 : cl167.slots[((1 : Int32)).toNatClampNeg]? = some (.int (1 : Int32)) := AV.at S167 rfl
              obtain ⟨cl168, A168, S168, Nl168, M168⟩ := id V_b151
              have hin168 : ¬ ((0 : Int32) < 0 ∨ cl168.slots.size ≤ ((0 : Int32)).toNatClampNeg) := AV.inb S168 Nl168 ⟨by decide, by decide⟩
              obtain ⟨T168, h168, X168, e168, W168, st168⟩ := stI X151 hx hZ e151 A168 (j := (0 : Int32)) hin168 (g := (mkF m 206 (Lq1n3 a1 a2 p3 b2 b5 (kI 1) (kR b59) (kI (p3 - s1)) (kR b151) (kI 1) (kI 1)) [(.int (1 : Int32)), (.int (0 : Int32)), (.ref b151)])) rfl rfl (hb hby d1_206)
              have V168 : AV Z h168 b151 .int (1 : Int32) [(.int (1 : Int32))] := AV.set A168 S168 Nl168 M168 W168
              have K168 : Keep h0 h168 [] := K151.wr W168 (Or.inr sz_b151)
              have N168 := Fr.snoc X168 N141 g_b151
              have F170 := (F166.other W168 ne164)
              obtain ⟨cl169, A169, S169, Nl169, M169⟩ := id F170
              have hin169 : ¬ ((2 : Int32) < 0 ∨ cl169.slots.size ≤ ((2 : Int32)).toNatClampNeg) := AV.inb S169 Nl169 ⟨by decide, by decide⟩
              have hat169 : cl169.slots[((2 : Int32)).toNatClampNeg]? = some (.int (0 : Int32)) := AV.at S169 rfl
              obtain ⟨fs, hr, hrun, hended, hW, hsame⟩ := X168.leave (v := some (.ref b151)) (fun h => by rw [Bd.returns] at h; cases h) hlk
              refine ⟨_, _, pre148 _ ?_, hrun, hended, _, _, rfl, ?_, ⟨_, rfl⟩, hW, hsame.mono (by decide) (by decide)⟩
              · show Steps _ _ _ (T141.setTop (mkF m 144 (Lq1n3 a1 a2 p3 b2 b5 (kI 1) (kR b59) (kI (p3 - s1)) (kI 0) kU kU) [(.int (ut0 ((p3 - s1)).toNatClampNeg))])) _
                refine XS.ifYes X141.here hx rfl (pc0 := 144) (pc' := 165) rfl (hb hby d1_144) rfl ((if0 _ _).trans (teq hc149).1) (by decide) (by decide) ?_
                refine XS.iinc X141.here hx rfl (hb hby d1_165) rfl (l' := (Lq1n3 a1 a2 p3 b2 b5 (kI 1) (kR b59) (kI (p3 - s1)) (kI (-1)) kU kU)) rfl ?_
                refine XS.goto X141.here hx rfl (pc0 := 168) (pc' := 131) rfl (hb hby d1_168) (by decide) (by decide) ?_
                show Steps _ _ _ (T141.setTop (mkF m 131 (Lq1n3 a1 a2 p3 b2 b5 (kI 1) (kR b59) (kI (p3 - s1)) (kI (-1)) kU kU) [])) _
                refine XS.iload X141.here hx rfl (hb hby d1_131) rfl ?_
                refine XS.ifYes X141.here hx rfl (pc0 := 133) (pc' := 171) rfl (hb hby d1_133) rfl ((if0 _ _).trans (tlt (by decide : (-1 : Int32) < (0 : Int32))).1) (by decide) (by decide) ?_
                refine XS.iload X141.here hx rfl (hb hby d1_171) rfl ?_
                refine st151 _ ?_
                show Steps _ _ _ (T151.setTop (mkF m 175 (Lq1n3 a1 a2 p3 b2 b5 (kI 1) (kR b59) (kI (p3 - s1)) (kI (-1)) kU kU) [(.ref b151)])) _
                refine XS.astore X151.here hx rfl (hb hby d1_175) rfl rfl (l' := (Lq1n3 a1 a2 p3 b2 b5 (kI 1) (kR b59) (kI (p3 - s1)) (kR b151) kU kU)) rfl ?_
                refine XS.iconst X151.here hx rfl (hb hby d1_177) ?_
                refine XS.istore X151.here hx rfl (hb hby d1_178) rfl (l' := (Lq1n3 a1 a2 p3 b2 b5 (kI 1) (kR b59) (kI (p3 - s1)) (kR b151) (kI 0) kU)) rfl ?_
                show Steps _ _ _ (T151.setTop (mkF m 180 (Lq1n3 a1 a2 p3 b2 b5 (kI 1) (kR b59) (kI (p3 - s1)) (kR b151) (kI 0) kU) [])) _
                refine XS.iconst X151.here hx rfl (hb hby d1_180) ?_
                refine XS.istore X151.here hx rfl (hb hby d1_181) rfl (l' := (Lq1n3 a1 a2 p3 b2 b5 (kI 1) (kR b59) (kI (p3 - s1)) (kR b151) (kI 0) (kI 0))) rfl ?_
                refine XS.iload X151.here hx rfl (hb hby d1_183) rfl ?_
                show Steps _ _ _ (T151.setTop (mkF m 185 (Lq1n3 a1 a2 p3 b2 b5 (kI 1) (kR b59) (kI (p3 - s1)) (kR b151) (kI 0) (kI 0)) [(.int (0 : Int32))])) _
                refine XS.iloadN X151.here hx rfl (hb hby d1_185) rfl ?_
                refine XS.icmpNo X151.here hx rfl (hb hby d1_186) rfl (tlt (by decide : (0 : Int32) < (3 : Int32))).2.1 ?_
                refine XS.aload X151.here hx rfl (hb hby d1_189) rfl rfl ?_
                show Steps _ _ _ (T151.setTop (mkF m 191 (Lq1n3 a1 a2 p3 b2 b5 (kI 1) (kR b59) (kI (p3 - s1)) (kR b151) (kI 0) (kI 0)) [(.ref b59)])) _
                refine XS.iload X151.here hx rfl (hb hby d1_191) rfl ?_
                refine X151.baloadBooleans hx (j := (0 : Int32)) (v := (.int (0 : Int32))) (by rw [e151]; exact A165.1) (State.isArrayOf_alike hZ.alike A165.2.1) A165.2.2 hin165 hat165 (g := (mkF m 193 (Lq1n3 a1 a2 p3 b2 b5 (kI 1) (kR b59) (kI (p3 - s1)) (kR b151) (kI 0) (kI 0)) [(.int (0 : Int32)), (.ref b59)])) rfl rfl (hb hby d1_193) _ ?_
                refine XS.ifYes X151.here hx rfl (pc0 := 194) (pc' := 207) rfl (hb hby d1_194) rfl ((if0 _ _).trans (teq (rfl : (0 : Int32) = (0 : Int32))).1) (by decide) (by decide) ?_
                refine XS.iinc X151.here hx rfl (hb hby d1_207) rfl (l' := (Lq1n3 a1 a2 p3 b2 b5 (kI 1) (kR b59) (kI (p3 - s1)) (kR b151) (kI 0) (kI 1))) rfl ?_
                show Steps _ _ _ (T151.setTop (mkF m 210 (Lq1n3 a1 a2 p3 b2 b5 (kI 1) (kR b59) (kI (p3 - s1)) (kR b151) (kI 0) (kI 1)) [])) _
                refine XS.goto X151.here hx rfl (pc0 := 210) (pc' := 183) rfl (hb hby d1_210) (by decide) (by decide) ?_
                refine XS.iload X151.here hx rfl (hb hby d1_183) rfl ?_
                refine XS.iloadN X151.here hx rfl (hb hby d1_185) rfl ?_
                show Steps _ _ _ (T151.setTop (mkF m 186 (Lq1n3 a1 a2 p3 b2 b5 (kI 1) (kR b59) (kI (p3 - s1)) (kR b151) (kI 0) (kI 1)) [(.int (3 : Int32)), (.int (1 : Int32))])) _
                refine XS.icmpNo X151.here hx rfl (hb hby d1_186) rfl (tlt (by decide : (1 : Int32) < (3 : Int32))).2.1 ?_
                refine XS.aload X151.here hx rfl (hb hby d1_189) rfl rfl ?_
                refine XS.iload X151.here hx rfl (hb hby d1_191) rfl ?_
                refine X151.baloadBooleans hx (j := (1 : Int32)) (v := (.int (1 : Int32))) (by rw [e151]; exact A167.1) (State.isArrayOf_alike hZ.alike A167.2.1) A167.2.2 hin167 hat167 (g := (mkF m 193 (Lq1n3 a1 a2 p3 b2 b5 (kI 1) (kR b59) (kI (p3 - s1)) (kR b151) (kI 0) (kI 1)) [(.int (1 : Int32)), (.ref b59)])) rfl rfl (hb hby d1_193) _ ?_
                show Steps _ _ _ (T151.setTop (mkF m 194 (Lq1n3 a1 a2 p3 b2 b5 (kI 1) (kR b59) (kI (p3 - s1)) (kR b151) (kI 0) (kI 1)) [(.int (1 : Int32))])) _
                refine XS.ifNo X151.here hx rfl (hb hby d1_194) rfl ((if0 _ _).trans (feq (by decide : ¬ ((1 : Int32) = (0 : Int32)))).1) ?_
                refine XS.aload X151.here hx rfl (hb hby d1_197) rfl rfl ?_
                refine XS.iload X151.here hx rfl (hb hby d1_199) rfl ?_
                show Steps _ _ _ (T151.setTop (mkF m 201 (Lq1n3 a1 a2 p3 b2 b5 (kI 1) (kR b59) (kI (p3 - s1)) (kR b151) (kI 0) (kI 1)) [(.int (0 : Int32)), (.ref b151)])) _
                refine XS.iinc X151.here hx rfl (hb hby d1_201) rfl (l' := (Lq1n3 a1 a2 p3 b2 b5 (kI 1) (kR b59) (kI (p3 - s1)) (kR b151) (kI 1) (kI 1))) rfl ?_
                refine XS.iload X151.here hx rfl (hb hby d1_204) rfl ?_
                refine st168 _ ?_
                refine XS.iinc X168.here hx rfl (hb hby d1_207) rfl (l' := (Lq1n3 a1 a2 p3 b2 b5 (kI 1) (kR b59) (kI (p3 - s1)) (kR b151) (kI 1) (kI 2))) rfl ?_
                show Steps _ _ _ (T168.setTop (mkF m 210 (Lq1n3 a1 a2 p3 b2 b5 (kI 1) (kR b59) (kI (p3 - s1)) (kR b151) (kI 1) (kI 2)) [])) _
                refine XS.goto X168.here hx rfl (pc0 := 210) (pc' := 183) rfl (hb hby d1_210) (by decide) (by decide) ?_
                refine XS.iload X168.here hx rfl (hb hby d1_183) rfl ?_
                refine XS.iloadN X168.here hx rfl (hb hby d1_185) rfl ?_
                show Steps _ _ _ (T168.setTop (mkF m 186 (Lq1n3 a1 a2 p3 b2 b5 (kI 1) (kR b59) (kI (p3 - s1)) (kR b151) (kI 1) (kI 2)) [(.int (3 : Int32)), (.int (2 : Int32))])) _
                refine XS.icmpNo X168.here hx rfl (hb hby d1_186) rfl (tlt (by decide : (2 : Int32) < (3 : Int32))).2.1 ?_
                refine XS.aload X168.here hx rfl (hb hby d1_189) rfl rfl ?_
                refine XS.iload X168.here hx rfl (hb hby d1_191) rfl ?_
                refine X168.baloadBooleans hx (j := (2 : Int32)) (v := (.int (0 : Int32))) (by rw [e168]; exact A169.1) (State.isArrayOf_alike hZ.alike A169.2.1) A169.2.2 hin169 hat169 (g := (mkF m 193 (Lq1n3 a1 a2 p3 b2 b5 (kI 1) (kR b59) (kI (p3 - s1)) (kR b151) (kI 1) (kI 2)) [(.int (2 : Int32)), (.ref b59)])) rfl rfl (hb hby d1_193) _ ?_
                show Steps _ _ _ (T168.setTop (mkF m 194 (Lq1n3 a1 a2 p3 b2 b5 (kI 1) (kR b59) (kI (p3 - s1)) (kR b151) (kI 1) (kI 2)) [(.int (0 : Int32))])) _
                refine XS.ifYes X168.here hx rfl (pc0 := 194) (pc' := 207) rfl (hb hby d1_194) rfl ((if0 _ _).trans (teq (rfl : (0 : Int32) = (0 : Int32))).1) (by decide) (by decide) ?_
                refine XS.iinc X168.here hx rfl (hb hby d1_207) rfl (l' := (Lq1n3 a1 a2 p3 b2 b5 (kI 1) (kR b59) (kI (p3 - s1)) (kR b151) (kI 1) (kI 3))) rfl ?_
                refine XS.goto X168.here hx rfl (pc0 := 210) (pc' := 183) rfl (hb hby d1_210) (by decide) (by decide) ?_
                show Steps _ _ _ (T168.setTop (mkF m 183 (Lq1n3 a1 a2 p3 b2 b5 (kI 1) (kR b59) (kI (p3 - s1)) (kR b151) (kI 1) (kI 3)) [])) _
                refine XS.iload X168.here hx rfl (hb hby d1_183) rfl ?_
                refine XS.iloadN X168.here hx rfl (hb hby d1_185) rfl ?_
                refine XS.icmpYes X168.here hx rfl (pc0 := 186) (pc' := 213) rfl (hb hby d1_186) rfl (flt (by decide : ¬ ((3 : Int32) < (3 : Int32)))).2.1 (by decide) (by decide) ?_
                show Steps _ _ _ (T168.setTop (mkF m 213 (Lq1n3 a1 a2 p3 b2 b5 (kI 1) (kR b59) (kI (p3 - s1)) (kR b151) (kI 1) (kI 3)) [])) _
                refine XS.aload X168.here hx rfl (hb hby d1_213) rfl rfl ?_
                show Steps _ _ _ (T168.setTop (mkF m 215 (Lq1n3 a1 a2 p3 b2 b5 (kI 1) (kR b59) (kI (p3 - s1)) (kR b151) (kI 1) (kI 3)) [(.ref b151)])) _
                jvm_step X168.here [X168.here.top, hx, (hb hby d1_215), X168.method', Bd.returns, Value.isRef, FieldType.isReference]
                first | (intro acts; rw [hr _ acts rfl rfl rfl]) | rw [hr _ _ rfl rfl rfl]
                exact Steps.refl _
              · show Q1n3 Z a1 a2 p3 s0 s1 s2 v0 v1 v2 h0 n0 _ T168.heap _
                rw [e168]
                exact ⟨b151, (1 : Int32), [.int (1 : Int32)], rfl, N168, K168, g_b151, sz_b151, V168, (Or.inr (Or.inr (Or.inl ⟨rfl, rfl, own_fin hcap hs0 hs1 hs2 hv0 hv1 hv2 hI0 hI1 hI2 hT79 hT139 hT150⟩)))⟩
            · have hT172 : own_tr ut0 s0 (p3 - s1) true ((p3 - s1) - s0) := Or.inr ⟨rfl, hc149, rfl⟩
              have hr173 : own_rg ((p3 - s1) - s0) p3 := own_rm0 hcap hr140 hs0 hI0 hc149
              obtain ⟨cl174, A174, S174, Nl174, M174⟩ := id V141
              have hin174 : ¬ ((0 : Int32) < 0 ∨ cl174.slots.size ≤ ((0 : Int32)).toNatClampNeg) := AV.inb S174 Nl174 ⟨by decide, by decide⟩
              obtain ⟨T174, h174, X174, e174, W174, st174⟩ := stZ X141 hx hZ e141 A174 (j := (0 : Int32)) hin174 (g := (mkF m 152 (Lq1n3 a1 a2 p3 b2 b5 (kI 1) (kR b59) (kI (p3 - s1)) (kI 0) kU kU) [(.int (1 : Int32)), (.int (0 : Int32)), (.ref b59)])) rfl rfl (hb hby d1_152)
              have V174 : AV Z h174 b59 .boolean (3 : Int32) [(.int (1 : Int32)), (.int (1 : Int32)), (.int (0 : Int32))] := AV.set A174 S174 Nl174 M174 W174
              have K174 : Keep h0 h174 [] := K141.wr W174 (Or.inr sz_b59)
              have N174 := Fr.snoc X174 N141 g_b59
              have F176 := (F143.other W174 ne67)
              obtain ⟨cl175, A175, S175, Nl175, M175⟩ := id F176
              have hin175 : ¬ ((0 : Int32) < 0 ∨ cl175.slots.size ≤ ((0 : Int32)).toNatClampNeg) := AV.inb S175 Nl175 ⟨by decide, by decide⟩
              have hat175 : cl175.slots[((0 : Int32)).toNatClampNeg]? = some (.int s0) := AV.at S175 rfl
              obtain ⟨T177, h177, k177, X177, e177, E177, A177, st177⟩ := newP X174 hx hZ (hw _ (List.mem_of_getElem? (i := 0) rfl)) e174 (g := (mkF m 173 (Lq1n3 a1 a2 p3 b2 b5 (kI 2) (kR b59) (kI ((p3 - s1) - s0)) (kI (-1)) kU kU) [(.int (2 : Int32))])) rfl (hb hby d1_173) rfl (by decide) (cap := 2) (by decide) (by decide) (by decide) (by decide)
              obtain ⟨b177, g177⟩ : ∃ z, z = h174.size := ⟨_, rfl⟩
              rw [← g177] at A177 st177
              have F178 := (((F60.ext E59).wr W141).wr W174)
              have ne179 : b11 ≠ b177 := Nat.ne_of_lt (Nat.lt_of_lt_of_le F178.lt (Nat.le_of_eq g177.symm))
              have F180 := (((F62.ext E59).wr W141).wr W174)
              have ne181 : b25 ≠ b177 := Nat.ne_of_lt (Nat.lt_of_lt_of_le F180.lt (Nat.le_of_eq g177.symm))
              have F182 := (((F64.ext E59).wr W141).wr W174)
              have ne183 : b41 ≠ b177 := Nat.ne_of_lt (Nat.lt_of_lt_of_le F182.lt (Nat.le_of_eq g177.symm))
              have ne184 : a1 ≠ b177 := Nat.ne_of_lt (Nat.lt_of_lt_of_le F176.lt (Nat.le_of_eq g177.symm))
              have F185 := (((F68.ext E59).other W141 ne69).other W174 ne69)
              have ne186 : a2 ≠ b177 := Nat.ne_of_lt (Nat.lt_of_lt_of_le F185.lt (Nat.le_of_eq g177.symm))
              have F187 := (F145.other W174 ne71)
              have ne188 : b5 ≠ b177 := Nat.ne_of_lt (Nat.lt_of_lt_of_le F187.lt (Nat.le_of_eq g177.symm))
              have F189 := (((Lf56_0.ext E59).other W141 ne72).other W174 ne72)
              have ne190 : b2 ≠ b177 := Nat.ne_of_lt (Nat.lt_of_lt_of_le F189.lt (Nat.le_of_eq g177.symm))
              have ne191 : b59 ≠ b177 := Nat.ne_of_lt (Nat.lt_of_lt_of_le V174.lt (Nat.le_of_eq g177.symm))
              have g_b177 : n0 ≤ b177 := Nat.le_trans (Nat.le_trans Z0 K174.1) (Nat.le_of_eq g177.symm)
              have sz_b177 : h0.size ≤ b177 := Nat.le_trans K174.1 (Nat.le_of_eq g177.symm)
              have K177 : Keep h0 h177 [] := K174.ext E177
              have V_b177 : AV Z h177 b177 .int (2 : Int32) [(.int (0 : Int32)), (.int (0 : Int32))] := AV.new A177 (by decide)
              have F193 := (V174.ext E177)
              obtain ⟨cl192, A192, S192, Nl192, M192⟩ := id F193
              have hin192 : ¬ ((0 : Int32) < 0 ∨ cl192.slots.size ≤ ((0 : Int32)).toNatClampNeg) := AV.inb S192 Nl192 ⟨by decide, by decide⟩
              have hat192 : cl192.slots[((0 : Int32)).toNatClampNeg]? = some (.int (1 : Int32)) := AV.at S192 rfl
              obtain ⟨cl194, A194, S194, Nl194, M194⟩ := id V_b177
              have hin194 : ¬ ((0 : Int32) < 0 ∨ cl194.slots.size ≤ ((0 : Int32)).toNatClampNeg) := AV.inb S194 Nl194 ⟨by decide, by decide⟩
              obtain ⟨T194, h194, X194, e194, W194, st194⟩ := stI X177 hx hZ e177 A194 (j := (0 : Int32)) hin194 (g := (mkF m 206 (Lq1n3 a1 a2 p3 b2 b5 (kI 2) (kR b59) (kI ((p3 - s1) - s0)) (kR b177) (kI 1) (kI 0)) [(.int (0 : Int32)), (.int (0 : Int32)), (.ref b177)])) rfl rfl (hb hby d1_206)
              have V194 : AV Z h194 b177 .int (2 : Int32) [(.int (0 : Int32)), (.int (0 : Int32))] := AV.set A194 S194 Nl194 M194 W194
              have K194 : Keep h0 h194 [] := K177.wr W194 (Or.inr sz_b177)
              have N194 := Fr.snoc X194 N174 g_b177
              have F196 := (F193.other W194 ne191)
              obtain ⟨cl195, A195, S195, Nl195, M195⟩ := id F196
              have hin195 : ¬ ((1 : Int32) < 0 ∨ cl195.slots.size ≤ ((1 : Int32)).toNatClampNeg) := AV.inb S195 Nl195 ⟨by decide, by decide⟩
              have hat195 : cl195.slots[((1 : Int32)).toNatClampNeg]? = some (.int (1 : Int32)) := AV.at S195 rfl
              obtain ⟨cl197, A197, S197, Nl197, M197⟩ := id V194
              have hin197 : ¬ ((1 : Int32) < 0 ∨ cl197.slots.size ≤ ((1 : Int32)).toNatClampNeg) := AV.inb S197 Nl197 ⟨by decide, by decide⟩
              obtain ⟨T197, h197, X197, e197, W197, st197⟩ := stI X194 hx hZ e194 A197 (j := (1 : Int32)) hin197 (g := (mkF m 206 (Lq1n3 a1 a2 p3 b2 b5 (kI 2) (kR b59) (kI ((p3 - s1) - s0)) (kR b177) (kI 2) (kI 1)) [(.int (1 : Int32)), (.int (1 : Int32)), (.ref b177)])) rfl rfl (hb hby d1_206)
              have V197 : AV Z h197 b177 .int (2 : Int32) [(.int (0 : Int32)), (.int (1 : Int32))] := AV.set A197 S197 Nl197 M197 W197
              have K197 : Keep h0 h197 [] := K194.wr W197 (Or.inr sz_b177)
              have N197 := Fr.snoc X197 N194 g_b177
              have F199 := (F196.other W197 ne191)
              obtain ⟨cl198, A198, S198, Nl198, M198⟩ := id F199
              have hin198 : ¬ ((2 : Int32) < 0 ∨ cl198.slots.size ≤ ((2 : Int32)).toNatClampNeg) := AV.inb S198 Nl198 ⟨by decide, by decide⟩
              have hat198 : cl198.slots[((2 : Int32)).toNatClampNeg]? = some (.int (0 : Int32)) := AV.at S198 rfl
              obtain ⟨fs, hr, hrun, hended, hW, hsame⟩ := X197.leave (v := some (.ref b177)) (fun h => by rw [Bd.returns] at h; cases h) hlk
              refine ⟨_, _, pre148 _ ?_, hrun, hended, _, _, rfl, ?_, ⟨_, rfl⟩, hW, hsame.mono (by decide) (by decide)⟩
              · show Steps _ _ _ (T141.setTop (mkF m 144 (Lq1n3 a1 a2 p3 b2 b5 (kI 1) (kR b59) (kI (p3 - s1)) (kI 0) kU kU) [(.int (ut0 ((p3 - s1)).toNatClampNeg))])) _
                refine XS.ifNo X141.here hx rfl (hb hby d1_144) rfl ((if0 _ _).trans (feq hc149).1) ?_
                refine XS.aload X141.here hx rfl (hb hby d1_147) rfl rfl ?_
                show Steps _ _ _ (T141.setTop (mkF m 149 (Lq1n3 a1 a2 p3 b2 b5 (kI 1) (kR b59) (kI (p3 - s1)) (kI 0) kU kU) [(.ref b59)])) _
                refine XS.iload X141.here hx rfl (hb hby d1_149) rfl ?_
                refine XS.iconst X141.here hx rfl (hb hby d1_151) ?_
                refine st174 _ ?_
                refine XS.iinc X174.here hx rfl (hb hby d1_153) rfl (l' := (Lq1n3 a1 a2 p3 b2 b5 (kI 2) (kR b59) (kI (p3 - s1)) (kI 0) kU kU)) rfl ?_
                show Steps _ _ _ (T174.setTop (mkF m 156 (Lq1n3 a1 a2 p3 b2 b5 (kI 2) (kR b59) (kI (p3 - s1)) (kI 0) kU kU) [])) _
                refine XS.iload X174.here hx rfl (hb hby d1_156) rfl ?_
                refine XS.aloadN X174.here hx rfl (hb hby d1_158) rfl rfl ?_
                refine XS.iload X174.here hx rfl (hb hby d1_159) rfl ?_
                refine X174.iaload hx (j := (0 : Int32)) (v := (.int s0)) (by rw [e174]; exact A175.1) (State.isArrayOf_alike hZ.alike A175.2.1) A175.2.2 hin175 hat175 (g := (mkF m 161 (Lq1n3 a1 a2 p3 b2 b5 (kI 2) (kR b59) (kI (p3 - s1)) (kI 0) kU kU) [(.int (0 : Int32)), (.ref a1), (.int (p3 - s1))])) rfl rfl (hb hby d1_161) _ ?_
                show Steps _ _ _ (T174.setTop (mkF m 162 (Lq1n3 a1 a2 p3 b2 b5 (kI 2) (kR b59) (kI (p3 - s1)) (kI 0) kU kU) [(.int s0), (.int (p3 - s1))])) _
                refine XS.isub X174.here hx rfl (hb hby d1_162) rfl ?_
                refine XS.istore X174.here hx rfl (hb hby d1_163) rfl (l' := (Lq1n3 a1 a2 p3 b2 b5 (kI 2) (kR b59) (kI ((p3 - s1) - s0)) (kI 0) kU kU)) rfl ?_
                refine XS.iinc X174.here hx rfl (hb hby d1_165) rfl (l' := (Lq1n3 a1 a2 p3 b2 b5 (kI 2) (kR b59) (kI ((p3 - s1) - s0)) (kI (-1)) kU kU)) rfl ?_
                show Steps _ _ _ (T174.setTop (mkF m 168 (Lq1n3 a1 a2 p3 b2 b5 (kI 2) (kR b59) (kI ((p3 - s1) - s0)) (kI (-1)) kU kU) [])) _
                refine XS.goto X174.here hx rfl (pc0 := 168) (pc' := 131) rfl (hb hby d1_168) (by decide) (by decide) ?_
                refine XS.iload X174.here hx rfl (hb hby d1_131) rfl ?_
                refine XS.ifYes X174.here hx rfl (pc0 := 133) (pc' := 171) rfl (hb hby d1_133) rfl ((if0 _ _).trans (tlt (by decide : (-1 : Int32) < (0 : Int32))).1) (by decide) (by decide) ?_
                show Steps _ _ _ (T174.setTop (mkF m 171 (Lq1n3 a1 a2 p3 b2 b5 (kI 2) (kR b59) (kI ((p3 - s1) - s0)) (kI (-1)) kU kU) [])) _
                refine XS.iload X174.here hx rfl (hb hby d1_171) rfl ?_
                refine st177 _ ?_
                refine XS.astore X177.here hx rfl (hb hby d1_175) rfl rfl (l' := (Lq1n3 a1 a2 p3 b2 b5 (kI 2) (kR b59) (kI ((p3 - s1) - s0)) (kR b177) kU kU)) rfl ?_
                refine XS.iconst X177.here hx rfl (hb hby d1_177) ?_
                show Steps _ _ _ (T177.setTop (mkF m 178 (Lq1n3 a1 a2 p3 b2 b5 (kI 2) (kR b59) (kI ((p3 - s1) - s0)) (kR b177) kU kU) [(.int (0 : Int32))])) _
                refine XS.istore X177.here hx rfl (hb hby d1_178) rfl (l' := (Lq1n3 a1 a2 p3 b2 b5 (kI 2) (kR b59) (kI ((p3 - s1) - s0)) (kR b177) (kI 0) kU)) rfl ?_
                refine XS.iconst X177.here hx rfl (hb hby d1_180) ?_
                refine XS.istore X177.here hx rfl (hb hby d1_181) rfl (l' := (Lq1n3 a1 a2 p3 b2 b5 (kI 2) (kR b59) (kI ((p3 - s1) - s0)) (kR b177) (kI 0) (kI 0))) rfl ?_
                show Steps _ _ _ (T177.setTop (mkF m 183 (Lq1n3 a1 a2 p3 b2 b5 (kI 2) (kR b59) (kI ((p3 - s1) - s0)) (kR b177) (kI 0) (kI 0)) [])) _
                refine XS.iload X177.here hx rfl (hb hby d1_183) rfl ?_
                refine XS.iloadN X177.here hx rfl (hb hby d1_185) rfl ?_
                refine XS.icmpNo X177.here hx rfl (hb hby d1_186) rfl (tlt (by decide : (0 : Int32) < (3 : Int32))).2.1 ?_
                show Steps _ _ _ (T177.setTop (mkF m 189 (Lq1n3 a1 a2 p3 b2 b5 (kI 2) (kR b59) (kI ((p3 - s1) - s0)) (kR b177) (kI 0) (kI 0)) [])) _
                refine XS.aload X177.here hx rfl (hb hby d1_189) rfl rfl ?_
                refine XS.iload X177.here hx rfl (hb hby d1_191) rfl ?_
                refine X177.baloadBooleans hx (j := (0 : Int32)) (v := (.int (1 : Int32))) (by rw [e177]; exact A192.1) (State.isArrayOf_alike hZ.alike A192.2.1) A192.2.2 hin192 hat192 (g := (mkF m 193 (Lq1n3 a1 a2 p3 b2 b5 (kI 2) (kR b59) (kI ((p3 - s1) - s0)) (kR b177) (kI 0) (kI 0)) [(.int (0 : Int32)), (.ref b59)])) rfl rfl (hb hby d1_193) _ ?_
                refine XS.ifNo X177.here hx rfl (hb hby d1_194) rfl ((if0 _ _).trans (feq (by decide : ¬ ((1 : Int32) = (0 : Int32)))).1) ?_
                show Steps _ _ _ (T177.setTop (mkF m 197 (Lq1n3 a1 a2 p3 b2 b5 (kI 2) (kR b59) (kI ((p3 - s1) - s0)) (kR b177) (kI 0) (kI 0)) [])) _
                refine XS.aload X177.here hx rfl (hb hby d1_197) rfl rfl ?_
                refine XS.iload X177.here hx rfl (hb hby d1_199) rfl ?_
                refine XS.iinc X177.here hx rfl (hb hby d1_201) rfl (l' := (Lq1n3 a1 a2 p3 b2 b5 (kI 2) (kR b59) (kI ((p3 - s1) - s0)) (kR b177) (kI 1) (kI 0))) rfl ?_
                show Steps _ _ _ (T177.setTop (mkF m 204 (Lq1n3 a1 a2 p3 b2 b5 (kI 2) (kR b59) (kI ((p3 - s1) - s0)) (kR b177) (kI 1) (kI 0)) [(.int (0 : Int32)), (.ref b177)])) _
                refine XS.iload X177.here hx rfl (hb hby d1_204) rfl ?_
                refine st194 _ ?_
                refine XS.iinc X194.here hx rfl (hb hby d1_207) rfl (l' := (Lq1n3 a1 a2 p3 b2 b5 (kI 2) (kR b59) (kI ((p3 - s1) - s0)) (kR b177) (kI 1) (kI 1))) rfl ?_
                refine XS.goto X194.here hx rfl (pc0 := 210) (pc' := 183) rfl (hb hby d1_210) (by decide) (by decide) ?_
                show Steps _ _ _ (T194.setTop (mkF m 183 (Lq1n3 a1 a2 p3 b2 b5 (kI 2) (kR b59) (kI ((p3 - s1) - s0)) (kR b177) (kI 1) (kI 1)) [])) _
                refine XS.iload X194.here hx rfl (hb hby d1_183) rfl ?_
                refine XS.iloadN X194.here hx rfl (hb hby d1_185) rfl ?_
                refine XS.icmpNo X194.here hx rfl (hb hby d1_186) rfl (tlt (by decide : (1 : Int32) < (3 : Int32))).2.1 ?_
                show Steps _ _ _ (T194.setTop (mkF m 189 (Lq1n3 a1 a2 p3 b2 b5 (kI 2) (kR b59) (kI ((p3 - s1) - s0)) (kR b177) (kI 1) (kI 1)) [])) _
                refine XS.aload X194.here hx rfl (hb hby d1_189) rfl rfl ?_
                refine XS.iload X194.here hx rfl (hb hby d1_191) rfl ?_
                refine X194.baloadBooleans hx (j := (1 : Int32)) (v := (.int (1 : Int32))) (by rw [e194]; exact A195.1) (State.isArrayOf_alike hZ.alike A195.2.1) A195.2.2 hin195 hat195 (g := (mkF m 193 (Lq1n3 a1 a2 p3 b2 b5 (kI 2) (kR b59) (kI ((p3 - s1) - s0)) (kR b177) (kI 1) (kI 1)) [(.int (1 : Int32)), (.ref b59)])) rfl rfl (hb hby d1_193) _ ?_
                refine XS.ifNo X194.here hx rfl (hb hby d1_194) rfl ((if0 _ _).trans (feq (by decide : ¬ ((1 : Int32) = (0 : Int32)))).1) ?_
                show Steps _ _ _ (T194.setTop (mkF m 197 (Lq1n3 a1 a2 p3 b2 b5 (kI 2) (kR b59) (kI ((p3 - s1) - s0)) (kR b177) (kI 1) (kI 1)) [])) _
                refine XS.aload X194.here hx rfl (hb hby d1_197) rfl rfl ?_
                refine XS.iload X194.here hx rfl (hb hby d1_199) rfl ?_
                refine XS.iinc X194.here hx rfl (hb hby d1_201) rfl (l' := (Lq1n3 a1 a2 p3 b2 b5 (kI 2) (kR b59) (kI ((p3 - s1) - s0)) (kR b177) (kI 2) (kI 1))) rfl ?_
                show Steps _ _ _ (T194.setTop (mkF m 204 (Lq1n3 a1 a2 p3 b2 b5 (kI 2) (kR b59) (kI ((p3 - s1) - s0)) (kR b177) (kI 2) (kI 1)) [(.int (1 : Int32)), (.ref b177)])) _
                refine XS.iload X194.here hx rfl (hb hby d1_204) rfl ?_
                refine st197 _ ?_
                refine XS.iinc X197.here hx rfl (hb hby d1_207) rfl (l' := (Lq1n3 a1 a2 p3 b2 b5 (kI 2) (kR b59) (kI ((p3 - s1) - s0)) (kR b177) (kI 2) (kI 2))) rfl ?_
                refine XS.goto X197.here hx rfl (pc0 := 210) (pc' := 183) rfl (hb hby d1_210) (by decide) (by decide) ?_
                show Steps _ _ _ (T197.setTop (mkF m 183 (Lq1n3 a1 a2 p3 b2 b5 (kI 2) (kR b59) (kI ((p3 - s1) - s0)) (kR b177) (kI 2) (kI 2)) [])) _
                refine XS.iload X197.here hx rfl (hb hby d1_183) rfl ?_
                refine XS.iloadN X197.here hx rfl (hb hby d1_185) rfl ?_
                refine XS.icmpNo X197.here hx rfl (hb hby d1_186) rfl (tlt (by decide : (2 : Int32) < (3 : Int32))).2.1 ?_
                show Steps _ _ _ (T197.setTop (mkF m 189 (Lq1n3 a1 a2 p3 b2 b5 (kI 2) (kR b59) (kI ((p3 - s1) - s0)) (kR b177) (kI 2) (kI 2)) [])) _
                refine XS.aload X197.here hx rfl (hb hby d1_189) rfl rfl ?_
                refine XS.iload X197.here hx rfl (hb hby d1_191) rfl ?_
                refine X197.baloadBooleans hx (j := (2 : Int32)) (v := (.int (0 : Int32))) (by rw [e197]; exact A198.1) (State.isArrayOf_alike hZ.alike A198.2.1) A198.2.2 hin198 hat198 (g := (mkF m 193 (Lq1n3 a1 a2 p3 b2 b5 (kI 2) (kR b59) (kI ((p3 - s1) - s0)) (kR b177) (kI 2) (kI 2)) [(.int (2 : Int32)), (.ref b59)])) rfl rfl (hb hby d1_193) _ ?_
                refine XS.ifYes X197.here hx rfl (pc0 := 194) (pc' := 207) rfl (hb hby d1_194) rfl ((if0 _ _).trans (teq (rfl : (0 : Int32) = (0 : Int32))).1) (by decide) (by decide) ?_
                show Steps _ _ _ (T197.setTop (mkF m 207 (Lq1n3 a1 a2 p3 b2 b5 (kI 2) (kR b59) (kI ((p3 - s1) - s0)) (kR b177) (kI 2) (kI 2)) [])) _
                refine XS.iinc X197.here hx rfl (hb hby d1_207) rfl (l' := (Lq1n3 a1 a2 p3 b2 b5 (kI 2) (kR b59) (kI ((p3 - s1) - s0)) (kR b177) (kI 2) (kI 3))) rfl ?_
                refine XS.goto X197.here hx rfl (pc0 := 210) (pc' := 183) rfl (hb hby d1_210) (by decide) (by decide) ?_
                refine XS.iload X197.here hx rfl (hb hby d1_183) rfl ?_
                show Steps _ _ _ (T197.setTop (mkF m 185 (Lq1n3 a1 a2 p3 b2 b5 (kI 2) (kR b59) (kI ((p3 - s1) - s0)) (kR b177) (kI 2) (kI 3)) [(.int (3 : Int32))])) _
                refine XS.iloadN X197.here hx rfl (hb hby d1_185) rfl ?_
                refine XS.icmpYes X197.here hx rfl (pc0 := 186) (pc' := 213) rfl (hb hby d1_186) rfl (flt (by decide : ¬ ((3 : Int32) < (3 : Int32)))).2.1 (by decide) (by decide) ?_
                refine XS.aload X197.here hx rfl (hb hby d1_213) rfl rfl ?_
                show Steps _ _ _ (T197.setTop (mkF m 215 (Lq1n3 a1 a2 p3 b2 b5 (kI 2) (kR b59) (kI ((p3 - s1) - s0)) (kR b177) (kI 2) (kI 3)) [(.ref b177)])) _
                jvm_step X197.here [X197.here.top, hx, (hb hby d1_215), X197.method', Bd.returns, Value.isRef, FieldType.isReference]
                first | (intro acts; rw [hr _ acts rfl rfl rfl]) | rw [hr _ _ rfl rfl rfl]
                exact Steps.refl _
              · show Q1n3 Z a1 a2 p3 s0 s1 s2 v0 v1 v2 h0 n0 _ T197.heap _
                rw [e197]
                exact ⟨b177, (2 : Int32), [.int (0 : Int32), .int (1 : Int32)], rfl, N197, K197, g_b177, sz_b177, V197, (Or.inr (Or.inr (Or.inr (Or.inl ⟨rfl, rfl, own_fin hcap hs0 hs1 hs2 hv0 hv1 hv2 hI0 hI1 hI2 hT79 hT139 hT172⟩))))⟩
        · have hT201 : own_tr ut2 s2 p3 true (p3 - s2) := Or.inr ⟨rfl, hc78, rfl⟩
          have hr202 : own_rg (p3 - s2) p3 := own_rm0 hcap ⟨hcap.1, Int.le_refl _⟩ hs2 hI2 hc78
          obtain ⟨cl203, A203, S203, Nl203, M203⟩ := id V_b59
          have hin203 : ¬ ((2 : Int32) < 0 ∨ cl203.slots.size ≤ ((2 : Int32)).toNatClampNeg) := AV.inb S203 Nl203 ⟨by decide, by decide⟩
          obtain ⟨T203, h203, X203, e203, W203, st203⟩ := stZ X59 hx hZ e59 A203 (j := (2 : Int32)) hin203 (g := (mkF m 152 (Lq1n3 a1 a2 p3 b2 b5 (kI 0) (kR b59) (kI p3) (kI 2) kU kU) [(.int (1 : Int32)), (.int (2 : Int32)), (.ref b59)])) rfl rfl (hb hby d1_152)
          have V203 : AV Z h203 b59 .boolean (3 : Int32) [(.int (0 : Int32)), (.int (0 : Int32)), (.int (1 : Int32))] := AV.set A203 S203 Nl203 M203 W203
          have K203 : Keep h0 h203 [] := K59.wr W203 (Or.inr sz_b59)
          have N203 := Fr.snoc X203 N56 g_b59
          have F205 := ((F66.ext E59).other W203 ne67)
          obtain ⟨cl204, A204, S204, Nl204, M204⟩ := id F205
          have hin204 : ¬ ((2 : Int32) < 0 ∨ cl204.slots.size ≤ ((2 : Int32)).toNatClampNeg) := AV.inb S204 Nl204 ⟨by decide, by decide⟩
          have hat204 : cl204.slots[((2 : Int32)).toNatClampNeg]? = some (.int s2) := AV.at S204 rfl
          have F207 := (F74.other W203 ne71)
          obtain ⟨cl206, A206, S206, Nl206, M206⟩ := id F207
          have hin206 : ¬ ((1 : Int32) < 0 ∨ cl206.slots.size ≤ ((1 : Int32)).toNatClampNeg) := AV.inb S206 Nl206 ⟨by decide, by decide⟩
          have hat206 : cl206.slots[((1 : Int32)).toNatClampNeg]? = some (.ref b25) := AV.at S206 rfl
          have F209 := (((((Lf38_1.ext E41).other W53 (Ne.symm ne33)).keep Kl56 (ninS (Ne.symm ne34) (ninS ne45 nin0))).ext E59).other W203 ne63)
          obtain ⟨cl208, A208, S208, M208, G208⟩ := id F209
          have hin208 : ¬ ((p3 - s2) < 0 ∨ cl208.slots.size ≤ ((p3 - s2)).toNatClampNeg) := inb_of S208 (own_ixr hcap hr202)
          have hat208 : cl208.slots[((p3 - s2)).toNatClampNeg]? = some (.int (ut1 ((p3 - s2)).toNatClampNeg)) := AI.at S208 G208 hin208
          have pre210 : ∀ t, Steps p.tables e below (T203.setTop (mkF m 144 (Lq1n3 a1 a2 p3 b2 b5 (kI 1) (kR b59) (kI (p3 - s2)) (kI 1) kU kU) [(.int (ut1 ((p3 - s2)).toNatClampNeg))])) t → Steps p.tables e below (s₁.setTop (entryFrame m #[(.ref a1), (.ref a2), (.int p3)] 12)) t := fun t k => pre77 t (by
            show Steps _ _ _ (T59.setTop (mkF m 144 (Lq1n3 a1 a2 p3 b2 b5 (kI 0) (kR b59) (kI p3) (kI 2) kU kU) [(.int (ut2 (p3).toNatClampNeg))])) _
            refine XS.ifNo X59.here hx rfl (hb hby d1_144) rfl ((if0 _ _).trans (feq hc78).1) ?_
            refine XS.aload X59.here hx rfl (hb hby d1_147) rfl rfl ?_
            refine XS.iload X59.here hx rfl (hb hby d1_149) rfl ?_
            show Steps _ _ _ (T59.setTop (mkF m 151 (Lq1n3 a1 a2 p3 b2 b5 (kI 0) (kR b59) (kI p3) (kI 2) kU kU) [(.int (2 : Int32)), (.ref b59)])) _
            refine XS.iconst X59.here hx rfl (hb hby d1_151) ?_
            refine st203 _ ?_
            refine XS.iinc X203.here hx rfl (hb hby d1_153) rfl (l' := (Lq1n3 a1 a2 p3 b2 b5 (kI 1) (kR b59) (kI p3) (kI 2) kU kU)) rfl ?_
            refine XS.iload X203.here hx rfl (hb hby d1_156) rfl ?_
            show Steps _ _ _ (T203.setTop (mkF m 158 (Lq1n3 a1 a2 p3 b2 b5 (kI 1) (kR b59) (kI p3) (kI 2) kU kU) [(.int p3)])) _
            refine XS.aloadN X203.here hx rfl (hb hby d1_158) rfl rfl ?_
            refine XS.iload X203.here hx rfl (hb hby d1_159) rfl ?_
            refine X203.iaload hx (j := (2 : Int32)) (v := (.int s2)) (by rw [e203]; exact A204.1) (State.isArrayOf_alike hZ.alike A204.2.1) A204.2.2 hin204 hat204 (g := (mkF m 161 (Lq1n3 a1 a2 p3 b2 b5 (kI 1) (kR b59) (kI p3) (kI 2) kU kU) [(.int (2 : Int32)), (.ref a1), (.int p3)])) rfl rfl (hb hby d1_161) _ ?_
            refine XS.isub X203.here hx rfl (hb hby d1_162) rfl ?_
            show Steps _ _ _ (T203.setTop (mkF m 163 (Lq1n3 a1 a2 p3 b2 b5 (kI 1) (kR b59) (kI p3) (kI 2) kU kU) [(.int (p3 - s2))])) _
            refine XS.istore X203.here hx rfl (hb hby d1_163) rfl (l' := (Lq1n3 a1 a2 p3 b2 b5 (kI 1) (kR b59) (kI (p3 - s2)) (kI 2) kU kU)) rfl ?_
            refine XS.iinc X203.here hx rfl (hb hby d1_165) rfl (l' := (Lq1n3 a1 a2 p3 b2 b5 (kI 1) (kR b59) (kI (p3 - s2)) (kI 1) kU kU)) rfl ?_
            refine XS.goto X203.here hx rfl (pc0 := 168) (pc' := 131) rfl (hb hby d1_168) (by decide) (by decide) ?_
            show Steps _ _ _ (T203.setTop (mkF m 131 (Lq1n3 a1 a2 p3 b2 b5 (kI 1) (kR b59) (kI (p3 - s2)) (kI 1) kU kU) [])) _
            refine XS.iload X203.here hx rfl (hb hby d1_131) rfl ?_
            refine XS.ifNo X203.here hx rfl (hb hby d1_133) rfl ((if0 _ _).trans (flt (by decide : ¬ ((1 : Int32) < (0 : Int32)))).1) ?_
            refine XS.aload X203.here hx rfl (hb hby d1_136) rfl rfl ?_
            show Steps _ _ _ (T203.setTop (mkF m 138 (Lq1n3 a1 a2 p3 b2 b5 (kI 1) (kR b59) (kI (p3 - s2)) (kI 1) kU kU) [(.ref b5)])) _
            refine XS.iload X203.here hx rfl (hb hby d1_138) rfl ?_
            refine X203.aaload hx (j := (1 : Int32)) (v := (.ref b25)) (by rw [e203]; exact A206.1) (State.isArrayOf_alike hZ.alike A206.2.1) rfl A206.2.2 hin206 hat206 (g := (mkF m 140 (Lq1n3 a1 a2 p3 b2 b5 (kI 1) (kR b59) (kI (p3 - s2)) (kI 1) kU kU) [(.int (1 : Int32)), (.ref b5)])) rfl rfl (hb hby d1_140) _ ?_
            refine XS.iload X203.here hx rfl (hb hby d1_141) rfl ?_
            refine X203.baloadBooleans hx (j := (p3 - s2)) (v := (.int (ut1 ((p3 - s2)).toNatClampNeg))) (by rw [e203]; exact A208.1) (State.isArrayOf_alike hZ.alike A208.2.1) A208.2.2 hin208 hat208 (g := (mkF m 143 (Lq1n3 a1 a2 p3 b2 b5 (kI 1) (kR b59) (kI (p3 - s2)) (kI 1) kU kU) [(.int (p3 - s2)), (.ref b25)])) rfl rfl (hb hby d1_143) _ ?_
            exact k)
          by_cases hc211 : (ut1 ((p3 - s2)).toNatClampNeg) = (0 : Int32)
          · have hT212 : own_tr ut1 s1 (p3 - s2) false (p3 - s2) := Or.inl ⟨rfl, hc211, rfl⟩
            obtain ⟨cl213, A213, S213, Nl213, M213⟩ := id F207
            have hin213 : ¬ ((0 : Int32) < 0 ∨ cl213.slots.size ≤ ((0 : Int32)).toNatClampNeg) := AV.inb S213 Nl213 ⟨by decide, by decide⟩
            have hat213 : cl213.slots[((0 : Int32)).toNatClampNeg]? = some (.ref b11) := AV.at S213 rfl
            have F215 := ((((((((Lf22_1.ext E25).other W35 (Ne.symm ne18)).keep Kl38 (ninS (Ne.symm ne17) (ninS ne27 nin0))).ext E41).other W53 (Ne.symm ne18)).keep Kl56 (ninS (Ne.symm ne17) (ninS ne43 nin0))).ext E59).other W203 ne61)
            obtain ⟨cl214, A214, S214, M214, G214⟩ := id F215
            have hin214 : ¬ ((p3 - s2) < 0 ∨ cl214.slots.size ≤ ((p3 - s2)).toNatClampNeg) := inb_of S214 (own_ixr hcap hr202)
            have hat214 : cl214.slots[((p3 - s2)).toNatClampNeg]? = some (.int (ut0 ((p3 - s2)).toNatClampNeg)) := AI.at S214 G214 hin214
            have pre216 : ∀ t, Steps p.tables e below (T203.setTop (mkF m 144 (Lq1n3 a1 a2 p3 b2 b5 (kI 1) (kR b59) (kI (p3 - s2)) (kI 0) kU kU) [(.int (ut0 ((p3 - s2)).toNatClampNeg))])) t → Steps p.tables e below (s₁.setTop (entryFrame m #[(.ref a1), (.ref a2), (.int p3)] 12)) t := fun t k => pre210 t (by
              show Steps _ _ _ (T203.setTop (mkF m 144 (Lq1n3 a1 a2 p3 b2 b5 (kI 1) (kR b59) (kI (p3 - s2)) (kI 1) kU kU) [(.int (ut1 ((p3 - s2)).toNatClampNeg))])) _
              refine XS.ifYes X203.here hx rfl (pc0 := 144) (pc' := 165) rfl (hb hby d1_144) rfl ((if0 _ _).trans (teq hc211).1) (by decide) (by decide) ?_
              show Steps _ _ _ (T203.setTop (mkF m 165 (Lq1n3 a1 a2 p3 b2 b5 (kI 1) (kR b59) (kI (p3 - s2)) (kI 1) kU kU) [])) _
              refine XS.iinc X203.here hx rfl (hb hby d1_165) rfl (l' := (Lq1n3 a1 a2 p3 b2 b5 (kI 1) (kR b59) (kI (p3 - s2)) (kI 0) kU kU)) rfl ?_
              refine XS.goto X203.here hx rfl (pc0 := 168) (pc' := 131) rfl (hb hby d1_168) (by decide) (by decide) ?_
              refine XS.iload X203.here hx rfl (hb hby d1_131) rfl ?_
              show Steps _ _ _ (T203.setTop (mkF m 133 (Lq1n3 a1 a2 p3 b2 b5 (kI 1) (kR b59) (kI (p3 - s2)) (kI 0) kU kU) [(.int (0 : Int32))])) _
              refine XS.ifNo X203.here hx rfl (hb hby d1_133) rfl ((if0 _ _).trans (flt (by decide : ¬ ((0 : Int32) < (0 : Int32)))).1) ?_
              refine XS.aload X203.here hx rfl (hb hby d1_136) rfl rfl ?_
              refine XS.iload X203.here hx rfl (hb hby d1_138) rfl ?_
              refine X203.aaload hx (j := (0 : Int32)) (v := (.ref b11)) (by rw [e203]; exact A213.1) (State.isArrayOf_alike hZ.alike A213.2.1) rfl A213.2.2 hin213 hat213 (g := (mkF m 140 (Lq1n3 a1 a2 p3 b2 b5 (kI 1) (kR b59) (kI (p3 - s2)) (kI 0) kU kU) [(.int (0 : Int32)), (.ref b5)])) rfl rfl (hb hby d1_140) _ ?_
              show Steps _ _ _ (T203.setTop (mkF m 141 (Lq1n3 a1 a2 p3 b2 b5 (kI 1) (kR b59) (kI (p3 - s2)) (kI 0) kU kU) [(.ref b11)])) _
              refine XS.iload X203.here hx rfl (hb hby d1_141) rfl ?_
              refine X203.baloadBooleans hx (j := (p3 - s2)) (v := (.int (ut0 ((p3 - s2)).toNatClampNeg))) (by rw [e203]; exact A214.1) (State.isArrayOf_alike hZ.alike A214.2.1) A214.2.2 hin214 hat214 (g := (mkF m 143 (Lq1n3 a1 a2 p3 b2 b5 (kI 1) (kR b59) (kI (p3 - s2)) (kI 0) kU kU) [(.int (p3 - s2)), (.ref b11)])) rfl rfl (hb hby d1_143) _ ?_
              exact k)
            by_cases hc217 : (ut0 ((p3 - s2)).toNatClampNeg) = (0 : Int32)
            · have hT218 : own_tr ut0 s0 (p3 - s2) false (p3 - s2) := Or.inl ⟨rfl, hc217, rfl⟩
              obtain ⟨T219, h219, k219, X219, e219, E219, A219, st219⟩ := newP X203 hx hZ (hw _ (List.mem_of_getElem? (i := 0) rfl)) e203 (g := (mkF m 173 (Lq1n3 a1 a2 p3 b2 b5 (kI 1) (kR b59) (kI (p3 - s2)) (kI (-1)) kU kU) [(.int (1 : Int32))])) rfl (hb hby d1_173) rfl (by decide) (cap := 1) (by decide) (by decide) (by decide) (by decide)
              obtain ⟨b219, g219⟩ : ∃ z, z = h203.size := ⟨_, rfl⟩
              rw [← g219] at A219 st219
              have F220 := ((F60.ext E59).wr W203)
              have ne221 : b11 ≠ b219 := Nat.ne_of_lt (Nat.lt_of_lt_of_le F220.lt (Nat.le_of_eq g219.symm))
              have F222 := ((F62.ext E59).wr W203)
              have ne223 : b25 ≠ b219 := Nat.ne_of_lt (Nat.lt_of_lt_of_le F222.lt (Nat.le_of_eq g219.symm))
              have F224 := ((F64.ext E59).wr W203)
              have ne225 : b41 ≠ b219 := Nat.ne_of_lt (Nat.lt_of_lt_of_le F224.lt (Nat.le_of_eq g219.symm))
              have ne226 : a1 ≠ b219 := Nat.ne_of_lt (Nat.lt_of_lt_of_le F205.lt (Nat.le_of_eq g219.symm))
              have F227 := ((F68.ext E59).other W203 ne69)
              have ne228 : a2 ≠ b219 := Nat.ne_of_lt (Nat.lt_of_lt_of_le F227.lt (Nat.le_of_eq g219.symm))
              have ne229 : b5 ≠ b219 := Nat.ne_of_lt (Nat.lt_of_lt_of_le F207.lt (Nat.le_of_eq g219.symm))
              have F230 := ((Lf56_0.ext E59).other W203 ne72)
              have ne231 : b2 ≠ b219 := Nat.ne_of_lt (Nat.lt_of_lt_of_le F230.lt (Nat.le_of_eq g219.symm))
              have ne232 : b59 ≠ b219 := Nat.ne_of_lt (Nat.lt_of_lt_of_le V203.lt (Nat.le_of_eq g219.symm))
              have g_b219 : n0 ≤ b219 := Nat.le_trans (Nat.le_trans Z0 K203.1) (Nat.le_of_eq g219.symm)
              have sz_b219 : h0.size ≤ b219 := Nat.le_trans K203.1 (Nat.le_of_eq g219.symm)
              have K219 : Keep h0 h219 [] := K203.ext E219
              have V_b219 : AV Z h219 b219 .int (1 : Int32) [(.int (0 : Int32))] := AV.new A219 (by decide)
              have F234 := (V203.ext E219)
              obtain ⟨cl233, A233, S233, Nl233, M233⟩ := id F234
              have hin233 : ¬ ((0 : Int32) < 0 ∨ cl233.slots.size ≤ ((0 : Int32)).toNatClampNeg) := AV.inb S233 Nl233 ⟨by decide, by decide⟩
              have hat233 : cl233.slots[((0 : Int32)).toNatClampNeg]? = some (.int (0 : Int32)) := AV.at S233 rfl
              obtain ⟨cl235, A235, S235, Nl235, M235⟩ := id F234
              have hin235 : ¬ ((1 : Int32) < 0 ∨ cl235.slots.size ≤ ((1 : Int32)).toNatClampNeg) := AV.inb S235 Nl235 ⟨by decide, by decide⟩
              have hat235 : cl235.slots[((1 : Int32)).toNatClampNeg]? = some (.int (0 : Int32)) := AV.at S235 rfl
              obtain ⟨cl236, A236, S236, Nl236, M236⟩ := id F234
              have hin236 : ¬ ((2 : Int32) < 0 ∨ cl236.slots.size ≤ ((2 : Int32)).toNatClampNeg) := AV.inb S236 Nl236 ⟨by decide, by decide⟩
              have hat236 : cl236.slots[((2 : Int32)).toNatClampNeg]? = some (.int (1 : Int32)) := AV.at S236 rfl
              obtain ⟨cl237, A237, S237, Nl237, M237⟩ := id V_b219
              have hin237 : ¬ ((0 : Int32) < 0 ∨ cl237.slots.size ≤ ((0 : Int32)).toNatClampNeg) := AV.inb S237 Nl237 ⟨by decide, by decide⟩
              obtain ⟨T237, h237, X237, e237, W237, st237⟩ := stI X219 hx hZ e219 A237 (j := (0 : Int32)) hin237 (g := (mkF m 206 (Lq1n3 a1 a2 p3 b2 b5 (kI 1) (kR b59) (kI (p3 - s2)) (kR b219) (kI 1) (kI 2)) [(.int (2 : Int32)), (.int (0 : Int32)), (.ref b219)])) rfl rfl (hb hby d1_206)
              have V237 : AV Z h237 b219 .int (1 : Int32) [(.int (2 : Int32))] := AV.set A237 S237 Nl237 M237 W237
              have K237 : Keep h0 h237 [] := K219.wr W237 (Or.inr sz_b219)
              have N237 := Fr.snoc X237 N203 g_b219
              obtain ⟨fs, hr, hrun, hended, hW, hsame⟩ := X237.leave (v := some (.ref b219)) (fun h => by rw [Bd.returns] at h; cases h) hlk
              refine ⟨_, _, pre216 _ ?_, hrun, hended, _, _, rfl, ?_, ⟨_, rfl⟩, hW, hsame.mono (by decide) (by decide)⟩
              · show Steps _ _ _ (T203.setTop (mkF m 144 (Lq1n3 a1 a2 p3 b2 b5 (kI 1) (kR b59) (kI (p3 - s2)) (kI 0) kU kU) [(.int (ut0 ((p3 - s2)).toNatClampNeg))])) _
                refine XS.ifYes X203.here hx rfl (pc0 := 144) (pc' := 165) rfl (hb hby d1_144) rfl ((if0 _ _).trans (teq hc217).1) (by decide) (by decide) ?_
                refine XS.iinc X203.here hx rfl (hb hby d1_165) rfl (l' := (Lq1n3 a1 a2 p3 b2 b5 (kI 1) (kR b59) (kI (p3 - s2)) (kI (-1)) kU kU)) rfl ?_
                show Steps _ _ _ (T203.setTop (mkF m 168 (Lq1n3 a1 a2 p3 b2 b5 (kI 1) (kR b59) (kI (p3 - s2)) (kI (-1)) kU kU) [])) _
                refine XS.goto X203.here hx rfl (pc0 := 168) (pc' := 131) rfl (hb hby d1_168) (by decide) (by decide) ?_
                refine XS.iload X203.here hx rfl (hb hby d1_131) rfl ?_
                refine XS.ifYes X203.here hx rfl (pc0 := 133) (pc' := 171) rfl (hb hby d1_133) rfl ((if0 _ _).trans (tlt (by decide : (-1 : Int32) < (0 : Int32))).1) (by decide) (by decide) ?_
                show Steps _ _ _ (T203.setTop (mkF m 171 (Lq1n3 a1 a2 p3 b2 b5 (kI 1) (kR b59) (kI (p3 - s2)) (kI (-1)) kU kU) [])) _
                refine XS.iload X203.here hx rfl (hb hby d1_171) rfl ?_
                refine st219 _ ?_
                refine XS.astore X219.here hx rfl (hb hby d1_175) rfl rfl (l' := (Lq1n3 a1 a2 p3 b2 b5 (kI 1) (kR b59) (kI (p3 - s2)) (kR b219) kU kU)) rfl ?_
                refine XS.iconst X219.here hx rfl (hb hby d1_177) ?_
                show Steps _ _ _ (T219.setTop (mkF m 178 (Lq1n3 a1 a2 p3 b2 b5 (kI 1) (kR b59) (kI (p3 - s2)) (kR b219) kU kU) [(.int (0 : Int32))])) _
                refine XS.istore X219.here hx rfl (hb hby d1_178) rfl (l' := (Lq1n3 a1 a2 p3 b2 b5 (kI 1) (kR b59) (kI (p3 - s2)) (kR b219) (kI 0) kU)) rfl ?_
                refine XS.iconst X219.here hx rfl (hb hby d1_180) ?_
                refine XS.istore X219.here hx rfl (hb hby d1_181) rfl (l' := (Lq1n3 a1 a2 p3 b2 b5 (kI 1) (kR b59) (kI (p3 - s2)) (kR b219) (kI 0) (kI 0))) rfl ?_
                show Steps _ _ _ (T219.setTop (mkF m 183 (Lq1n3 a1 a2 p3 b2 b5 (kI 1) (kR b59) (kI (p3 - s2)) (kR b219) (kI 0) (kI 0)) [])) _
                refine XS.iload X219.here hx rfl (hb hby d1_183) rfl ?_
                refine XS.iloadN X219.here hx rfl (hb hby d1_185) rfl ?_
                refine XS.icmpNo X219.here hx rfl (hb hby d1_186) rfl (tlt (by decide : (0 : Int32) < (3 : Int32))).2.1 ?_
                show Steps _ _ _ (T219.setTop (mkF m 189 (Lq1n3 a1 a2 p3 b2 b5 (kI 1) (kR b59) (kI (p3 - s2)) (kR b219) (kI 0) (kI 0)) [])) _
                refine XS.aload X219.here hx rfl (hb hby d1_189) rfl rfl ?_
                refine XS.iload X219.here hx rfl (hb hby d1_191) rfl ?_
                refine X219.baloadBooleans hx (j := (0 : Int32)) (v := (.int (0 : Int32))) (by rw [e219]; exact A233.1) (State.isArrayOf_alike hZ.alike A233.2.1) A233.2.2 hin233 hat233 (g := (mkF m 193 (Lq1n3 a1 a2 p3 b2 b5 (kI 1) (kR b59) (kI (p3 - s2)) (kR b219) (kI 0) (kI 0)) [(.int (0 : Int32)), (.ref b59)])) rfl rfl (hb hby d1_193) _ ?_
                refine XS.ifYes X219.here hx rfl (pc0 := 194) (pc' := 207) rfl (hb hby d1_194) rfl ((if0 _ _).trans (teq (rfl : (0 : Int32) = (0 : Int32))).1) (by decide) (by decide) ?_
                show Steps _ _ _ (T219.setTop (mkF m 207 (Lq1n3 a1 a2 p3 b2 b5 (kI 1) (kR b59) (kI (p3 - s2)) (kR b219) (kI 0) (kI 0)) [])) _
                refine XS.iinc X219.here hx rfl (hb hby d1_207) rfl (l' := (Lq1n3 a1 a2 p3 b2 b5 (kI 1) (kR b59) (kI (p3 - s2)) (kR b219) (kI 0) (kI 1))) rfl ?_
                refine XS.goto X219.here hx rfl (pc0 := 210) (pc' := 183) rfl (hb hby d1_210) (by decide) (by decide) ?_
                refine XS.iload X219.here hx rfl (hb hby d1_183) rfl ?_
                show Steps _ _ _ (T219.setTop (mkF m 185 (Lq1n3 a1 a2 p3 b2 b5 (kI 1) (kR b59) (kI (p3 - s2)) (kR b219) (kI 0) (kI 1)) [(.int (1 : Int32))])) _
                refine XS.iloadN X219.here hx rfl (hb hby d1_185) rfl ?_
                refine XS.icmpNo X219.here hx rfl (hb hby d1_186) rfl (tlt (by decide : (1 : Int32) < (3 : Int32))).2.1 ?_
                refine XS.aload X219.here hx rfl (hb hby d1_189) rfl rfl ?_
                show Steps _ _ _ (T219.setTop (mkF m 191 (Lq1n3 a1 a2 p3 b2 b5 (kI 1) (kR b59) (kI (p3 - s2)) (kR b219) (kI 0) (kI 1)) [(.ref b59)])) _
                refine XS.iload X219.here hx rfl (hb hby d1_191) rfl ?_
                refine X219.baloadBooleans hx (j := (1 : Int32)) (v := (.int (0 : Int32))) (by rw [e219]; exact A235.1) (State.isArrayOf_alike hZ.alike A235.2.1) A235.2.2 hin235 hat235 (g := (mkF m 193 (Lq1n3 a1 a2 p3 b2 b5 (kI 1) (kR b59) (kI (p3 - s2)) (kR b219) (kI 0) (kI 1)) [(.int (1 : Int32)), (.ref b59)])) rfl rfl (hb hby d1_193) _ ?_
                refine XS.ifYes X219.here hx rfl (pc0 := 194) (pc' := 207) rfl (hb hby d1_194) rfl ((if0 _ _).trans (teq (rfl : (0 : Int32) = (0 : Int32))).1) (by decide) (by decide) ?_
                refine XS.iinc X219.here hx rfl (hb hby d1_207) rfl (l' := (Lq1n3 a1 a2 p3 b2 b5 (kI 1) (kR b59) (kI (p3 - s2)) (kR b219) (kI 0) (kI 2))) rfl ?_
                show Steps _ _ _ (T219.setTop (mkF m 210 (Lq1n3 a1 a2 p3 b2 b5 (kI 1) (kR b59) (kI (p3 - s2)) (kR b219) (kI 0) (kI 2)) [])) _
                refine XS.goto X219.here hx rfl (pc0 := 210) (pc' := 183) rfl (hb hby d1_210) (by decide) (by decide) ?_
                refine XS.iload X219.here hx rfl (hb hby d1_183) rfl ?_
                refine XS.iloadN X219.here hx rfl (hb hby d1_185) rfl ?_
                show Steps _ _ _ (T219.setTop (mkF m 186 (Lq1n3 a1 a2 p3 b2 b5 (kI 1) (kR b59) (kI (p3 - s2)) (kR b219) (kI 0) (kI 2)) [(.int (3 : Int32)), (.int (2 : Int32))])) _
                refine XS.icmpNo X219.here hx rfl (hb hby d1_186) rfl (tlt (by decide : (2 : Int32) < (3 : Int32))).2.1 ?_
                refine XS.aload X219.here hx rfl (hb hby d1_189) rfl rfl ?_
                refine XS.iload X219.here hx rfl (hb hby d1_191) rfl ?_
                refine X219.baloadBooleans hx (j := (2 : Int32)) (v := (.int (1 : Int32))) (by rw [e219]; exact A236.1) (State.isArrayOf_alike hZ.alike A236.2.1) A236.2.2 hin236 hat236 (g := (mkF m 193 (Lq1n3 a1 a2 p3 b2 b5 (kI 1) (kR b59) (kI (p3 - s2)) (kR b219) (kI 0) (kI 2)) [(.int (2 : Int32)), (.ref b59)])) rfl rfl (hb hby d1_193) _ ?_
                show Steps _ _ _ (T219.setTop (mkF m 194 (Lq1n3 a1 a2 p3 b2 b5 (kI 1) (kR b59) (kI (p3 - s2)) (kR b219) (kI 0) (kI 2)) [(.int (1 : Int32))])) _
                refine XS.ifNo X219.here hx rfl (hb hby d1_194) rfl ((if0 _ _).trans (feq (by decide : ¬ ((1 : Int32) = (0 : Int32)))).1) ?_
                refine XS.aload X219.here hx rfl (hb hby d1_197) rfl rfl ?_
                refine XS.iload X219.here hx rfl (hb hby d1_199) rfl ?_
                show Steps _ _ _ (T219.setTop (mkF m 201 (Lq1n3 a1 a2 p3 b2 b5 (kI 1) (kR b59) (kI (p3 - s2)) (kR b219) (kI 0) (kI 2)) [(.int (0 : Int32)), (.ref b219)])) _
                refine XS.iinc X219.here hx rfl (hb hby d1_201) rfl (l' := (Lq1n3 a1 a2 p3 b2 b5 (kI 1) (kR b59) (kI (p3 - s2)) (kR b219) (kI 1) (kI 2))) rfl ?_
                refine XS.iload X219.here hx rfl (hb hby d1_204) rfl ?_
                refine st237 _ ?_
                refine XS.iinc X237.here hx rfl (hb hby d1_207) rfl (l' := (Lq1n3 a1 a2 p3 b2 b5 (kI 1) (kR b59) (kI (p3 - s2)) (kR b219) (kI 1) (kI 3))) rfl ?_
                show Steps _ _ _ (T237.setTop (mkF m 210 (Lq1n3 a1 a2 p3 b2 b5 (kI 1) (kR b59) (kI (p3 - s2)) (kR b219) (kI 1) (kI 3)) [])) _
                refine XS.goto X237.here hx rfl (pc0 := 210) (pc' := 183) rfl (hb hby d1_210) (by decide) (by decide) ?_
                refine XS.iload X237.here hx rfl (hb hby d1_183) rfl ?_
                refine XS.iloadN X237.here hx rfl (hb hby d1_185) rfl ?_
                show Steps _ _ _ (T237.setTop (mkF m 186 (Lq1n3 a1 a2 p3 b2 b5 (kI 1) (kR b59) (kI (p3 - s2)) (kR b219) (kI 1) (kI 3)) [(.int (3 : Int32)), (.int (3 : Int32))])) _
                refine XS.icmpYes X237.here hx rfl (pc0 := 186) (pc' := 213) rfl (hb hby d1_186) rfl (flt (by decide : ¬ ((3 : Int32) < (3 : Int32)))).2.1 (by decide) (by decide) ?_
                refine XS.aload X237.here hx rfl (hb hby d1_213) rfl rfl ?_
                show Steps _ _ _ (T237.setTop (mkF m 215 (Lq1n3 a1 a2 p3 b2 b5 (kI 1) (kR b59) (kI (p3 - s2)) (kR b219) (kI 1) (kI 3)) [(.ref b219)])) _
                jvm_step X237.here [X237.here.top, hx, (hb hby d1_215), X237.method', Bd.returns, Value.isRef, FieldType.isReference]
                first | (intro acts; rw [hr _ acts rfl rfl rfl]) | rw [hr _ _ rfl rfl rfl]
                exact Steps.refl _
              · show Q1n3 Z a1 a2 p3 s0 s1 s2 v0 v1 v2 h0 n0 _ T237.heap _
                rw [e237]
                exact ⟨b219, (1 : Int32), [.int (2 : Int32)], rfl, N237, K237, g_b219, sz_b219, V237, (Or.inr (Or.inr (Or.inr (Or.inr (Or.inl ⟨rfl, rfl, own_fin hcap hs0 hs1 hs2 hv0 hv1 hv2 hI0 hI1 hI2 hT201 hT212 hT218⟩)))))⟩
            · have hT239 : own_tr ut0 s0 (p3 - s2) true ((p3 - s2) - s0) := Or.inr ⟨rfl, hc217, rfl⟩
              have hr240 : own_rg ((p3 - s2) - s0) p3 := own_rm0 hcap hr202 hs0 hI0 hc217
              obtain ⟨cl241, A241, S241, Nl241, M241⟩ := id V203
              have hin241 : ¬ ((0 : Int32) < 0 ∨ cl241.slots.size ≤ ((0 : Int32)).toNatClampNeg) := AV.inb S241 Nl241 ⟨by decide, by decide⟩
              obtain ⟨T241, h241, X241, e241, W241, st241⟩ := stZ X203 hx hZ e203 A241 (j := (0 : Int32)) hin241 (g := (mkF m 152 (Lq1n3 a1 a2 p3 b2 b5 (kI 1) (kR b59) (kI (p3 - s2)) (kI 0) kU kU) [(.int (1 : Int32)), (.int (0 : Int32)), (.ref b59)])) rfl rfl (hb hby d1_152)
              have V241 : AV Z h241 b59 .boolean (3 : Int32) [(.int (1 : Int32)), (.int (0 : Int32)), (.int (1 : Int32))] := AV.set A241 S241 Nl241 M241 W241
              have K241 : Keep h0 h241 [] := K203.wr W241 (Or.inr sz_b59)
              have N241 := Fr.snoc X241 N203 g_b59
              have F243 := (F205.other W241 ne67)
              obtain ⟨cl242, A242, S242, Nl242, M242⟩ := id F243
              have hin242 : ¬ ((0 : Int32) < 0 ∨ cl242.slots.size ≤ ((0 : Int32)).toNatClampNeg) := AV.inb S242 Nl242 ⟨by decide, by decide⟩
              have hat242 : cl242.slots[((0 : Int32)).toNatClampNeg]? = some (.int s0) := AV.at S242 rfl
              obtain ⟨T244, h244, k244, X244, e244, E244, A244, st244⟩ := newP X241 hx hZ (hw _ (List.mem_of_getElem? (i := 0) rfl)) e241 (g := (mkF m 173 (Lq1n3 a1 a2 p3 b2 b5 (kI 2) (kR b59) (kI ((p3 - s2) - s0)) (kI (-1)) kU kU) [(.int (2 : Int32))])) rfl (hb hby d1_173) rfl (by decide) (cap := 2) (by decide) (by decide) (by decide) (by decide)
              obtain ⟨b244, g244⟩ : ∃ z, z = h241.size := ⟨_, rfl⟩
              rw [← g244] at A244 st244
              have F245 := (((F60.ext E59).wr W203).wr W241)
              have ne246 : b11 ≠ b244 := Nat.ne_of_lt (Nat.lt_of_lt_of_le F245.lt (Nat.le_of_eq g244.symm))
              have F247 := (((F62.ext E59).wr W203).wr W241)
              have ne248 : b25 ≠ b244 := Nat.ne_of_lt (Nat.lt_of_lt_of_le F247.lt (Nat.le_of_eq g244.symm))
              have F249 := (((F64.ext E59).wr W203).wr W241)
              have ne250 : b41 ≠ b244 := Nat.ne_of_lt (Nat.lt_of_lt_of_le F249.lt (Nat.le_of_eq g244.symm))
              have ne251 : a1 ≠ b244 := Nat.ne_of_lt (Nat.lt_of_lt_of_le F243.lt (Nat.le_of_eq g244.symm))
              have F252 := (((F68.ext E59).other W203 ne69).other W241 ne69)
              have ne253 : a2 ≠ b244 := Nat.ne_of_lt (Nat.lt_of_lt_of_le F252.lt (Nat.le_of_eq g244.symm))
              have F254 := (F207.other W241 ne71)
              have ne255 : b5 ≠ b244 := Nat.ne_of_lt (Nat.lt_of_lt_of_le F254.lt (Nat.le_of_eq g244.symm))
              have F256 := (((Lf56_0.ext E59).other W203 ne72).other W241 ne72)
              have ne257 : b2 ≠ b244 := Nat.ne_of_lt (Nat.lt_of_lt_of_le F256.lt (Nat.le_of_eq g244.symm))
              have ne258 : b59 ≠ b244 := Nat.ne_of_lt (Nat.lt_of_lt_of_le V241.lt (Nat.le_of_eq g244.symm))
              have g_b244 : n0 ≤ b244 := Nat.le_trans (Nat.le_trans Z0 K241.1) (Nat.le_of_eq g244.symm)
              have sz_b244 : h0.size ≤ b244 := Nat.le_trans K241.1 (Nat.le_of_eq g244.symm)
              have K244 : Keep h0 h244 [] := K241.ext E244
              have V_b244 : AV Z h244 b244 .int (2 : Int32) [(.int (0 : Int32)), (.int (0 : Int32))] := AV.new A244 (by decide)
              have F260 := (V241.ext E244)
              obtain ⟨cl259, A259, S259, Nl259, M259⟩ := id F260
              have hin259 : ¬ ((0 : Int32) < 0 ∨ cl259.slots.size ≤ ((0 : Int32)).toNatClampNeg) := AV.inb S259 Nl259 ⟨by decide, by decide⟩
              have hat259 : cl259.slots[((0 : Int32)).toNatClampNeg]? = some (.int (1 : Int32)) := AV.at S259 rfl
              obtain ⟨cl261, A261, S261, Nl261, M261⟩ := id V_b244
              have hin261 : ¬ ((0 : Int32) < 0 ∨ cl261.slots.size ≤ ((0 : Int32)).toNatClampNeg) := AV.inb S261 Nl261 ⟨by decide, by decide⟩
              obtain ⟨T261, h261, X261, e261, W261, st261⟩ := stI X244 hx hZ e244 A261 (j := (0 : Int32)) hin261 (g := (mkF m 206 (Lq1n3 a1 a2 p3 b2 b5 (kI 2) (kR b59) (kI ((p3 - s2) - s0)) (kR b244) (kI 1) (kI 0)) [(.int (0 : Int32)), (.int (0 : Int32)), (.ref b244)])) rfl rfl (hb hby d1_206)
              have V261 : AV Z h261 b244 .int (2 : Int32) [(.int (0 : Int32)), (.int (0 : Int32))] := AV.set A261 S261 Nl261 M261 W261
              have K261 : Keep h0 h261 [] := K244.wr W261 (Or.inr sz_b244)
              have N261 := Fr.snoc X261 N241 g_b244
              have F263 := (F260.other W261 ne258)
              obtain ⟨cl262, A262, S262, Nl262, M262⟩ := id F263
              have hin262 : ¬ ((1 : Int32) < 0 ∨ cl262.slots.size ≤ ((1 : Int32)).toNatClampNeg) := AV.inb S262 Nl262 ⟨by decide, by decide⟩
              have hat262 : cl262.slots[((1 : Int32)).toNatClampNeg]? = some (.int (0 : Int32)) := AV.at S262 rfl
              obtain ⟨cl264, A264, S264, Nl264, M264⟩ := id F263
              have hin264 : ¬ ((2 : Int32) < 0 ∨ cl264.slots.size ≤ ((2 : Int32)).toNatClampNeg) := AV.inb S264 Nl264 ⟨by decide, by decide⟩
              have hat264 : cl264.slots[((2 : Int32)).toNatClampNeg]? = some (.int (1 : Int32)) := AV.at S264 rfl
              obtain ⟨cl265, A265, S265, Nl265, M265⟩ := id V261
              have hin265 : ¬ ((1 : Int32) < 0 ∨ cl265.slots.size ≤ ((1 : Int32)).toNatClampNeg) := AV.inb S265 Nl265 ⟨by decide, by decide⟩
              obtain ⟨T265, h265, X265, e265, W265, st265⟩ := stI X261 hx hZ e261 A265 (j := (1 : Int32)) hin265 (g := (mkF m 206 (Lq1n3 a1 a2 p3 b2 b5 (kI 2) (kR b59) (kI ((p3 - s2) - s0)) (kR b244) (kI 2) (kI 2)) [(.int (2 : Int32)), (.int (1 : Int32)), (.ref b244)])) rfl rfl (hb hby d1_206)
              have V265 : AV Z h265 b244 .int (2 : Int32) [(.int (0 : Int32)), (.int (2 : Int32))] := AV.set A265 S265 Nl265 M265 W265
              have K265 : Keep h0 h265 [] := K261.wr W265 (Or.inr sz_b244)
              have N265 := Fr.snoc X265 N261 g_b244
              obtain ⟨fs, hr, hrun, hended, hW, hsame⟩ := X265.leave (v := some (.ref b244)) (fun h => by rw [Bd.returns] at h; cases h) hlk
              refine ⟨_, _, pre216 _ ?_, hrun, hended, _, _, rfl, ?_, ⟨_, rfl⟩, hW, hsame.mono (by decide) (by decide)⟩
              · show Steps _ _ _ (T203.setTop (mkF m 144 (Lq1n3 a1 a2 p3 b2 b5 (kI 1) (kR b59) (kI (p3 - s2)) (kI 0) kU kU) [(.int (ut0 ((p3 - s2)).toNatClampNeg))])) _
                refine XS.ifNo X203.here hx rfl (hb hby d1_144) rfl ((if0 _ _).trans (feq hc217).1) ?_
                show Steps _ _ _ (T203.setTop (mkF m 147 (Lq1n3 a1 a2 p3 b2 b5 (kI 1) (kR b59) (kI (p3 - s2)) (kI 0) kU kU) [])) _
                refine XS.aload X203.here hx rfl (hb hby d1_147) rfl rfl ?_
                refine XS.iload X203.here hx rfl (hb hby d1_149) rfl ?_
                refine XS.iconst X203.here hx rfl (hb hby d1_151) ?_
                refine st241 _ ?_
                show Steps _ _ _ (T241.setTop (mkF m 153 (Lq1n3 a1 a2 p3 b2 b5 (kI 1) (kR b59) (kI (p3 - s2)) (kI 0) kU kU) [])) _
                refine XS.iinc X241.here hx rfl (hb hby d1_153) rfl (l' := (Lq1n3 a1 a2 p3 b2 b5 (kI 2) (kR b59) (kI (p3 - s2)) (kI 0) kU kU)) rfl ?_
                refine XS.iload X241.here hx rfl (hb hby d1_156) rfl ?_
                refine XS.aloadN X241.here hx rfl (hb hby d1_158) rfl rfl ?_
                show Steps _ _ _ (T241.setTop (mkF m 159 (Lq1n3 a1 a2 p3 b2 b5 (kI 2) (kR b59) (kI (p3 - s2)) (kI 0) kU kU) [(.ref a1), (.int (p3 - s2))])) _
                refine XS.iload X241.here hx rfl (hb hby d1_159) rfl ?_
                refine X241.iaload hx (j := (0 : Int32)) (v := (.int s0)) (by rw [e241]; exact A242.1) (State.isArrayOf_alike hZ.alike A242.2.1) A242.2.2 hin242 hat242 (g := (mkF m 161 (Lq1n3 a1 a2 p3 b2 b5 (kI 2) (kR b59) (kI (p3 - s2)) (kI 0) kU kU) [(.int (0 : Int32)), (.ref a1), (.int (p3 - s2))])) rfl rfl (hb hby d1_161) _ ?_
                refine XS.isub X241.here hx rfl (hb hby d1_162) rfl ?_
                refine XS.istore X241.here hx rfl (hb hby d1_163) rfl (l' := (Lq1n3 a1 a2 p3 b2 b5 (kI 2) (kR b59) (kI ((p3 - s2) - s0)) (kI 0) kU kU)) rfl ?_
                show Steps _ _ _ (T241.setTop (mkF m 165 (Lq1n3 a1 a2 p3 b2 b5 (kI 2) (kR b59) (kI ((p3 - s2) - s0)) (kI 0) kU kU) [])) _
                refine XS.iinc X241.here hx rfl (hb hby d1_165) rfl (l' := (Lq1n3 a1 a2 p3 b2 b5 (kI 2) (kR b59) (kI ((p3 - s2) - s0)) (kI (-1)) kU kU)) rfl ?_
                refine XS.goto X241.here hx rfl (pc0 := 168) (pc' := 131) rfl (hb hby d1_168) (by decide) (by decide) ?_
                refine XS.iload X241.here hx rfl (hb hby d1_131) rfl ?_
                show Steps _ _ _ (T241.setTop (mkF m 133 (Lq1n3 a1 a2 p3 b2 b5 (kI 2) (kR b59) (kI ((p3 - s2) - s0)) (kI (-1)) kU kU) [(.int (-1 : Int32))])) _
                refine XS.ifYes X241.here hx rfl (pc0 := 133) (pc' := 171) rfl (hb hby d1_133) rfl ((if0 _ _).trans (tlt (by decide : (-1 : Int32) < (0 : Int32))).1) (by decide) (by decide) ?_
                refine XS.iload X241.here hx rfl (hb hby d1_171) rfl ?_
                refine st244 _ ?_
                refine XS.astore X244.here hx rfl (hb hby d1_175) rfl rfl (l' := (Lq1n3 a1 a2 p3 b2 b5 (kI 2) (kR b59) (kI ((p3 - s2) - s0)) (kR b244) kU kU)) rfl ?_
                show Steps _ _ _ (T244.setTop (mkF m 177 (Lq1n3 a1 a2 p3 b2 b5 (kI 2) (kR b59) (kI ((p3 - s2) - s0)) (kR b244) kU kU) [])) _
                refine XS.iconst X244.here hx rfl (hb hby d1_177) ?_
                refine XS.istore X244.here hx rfl (hb hby d1_178) rfl (l' := (Lq1n3 a1 a2 p3 b2 b5 (kI 2) (kR b59) (kI ((p3 - s2) - s0)) (kR b244) (kI 0) kU)) rfl ?_
                refine XS.iconst X244.here hx rfl (hb hby d1_180) ?_
                show Steps _ _ _ (T244.setTop (mkF m 181 (Lq1n3 a1 a2 p3 b2 b5 (kI 2) (kR b59) (kI ((p3 - s2) - s0)) (kR b244) (kI 0) kU) [(.int (0 : Int32))])) _
                refine XS.istore X244.here hx rfl (hb hby d1_181) rfl (l' := (Lq1n3 a1 a2 p3 b2 b5 (kI 2) (kR b59) (kI ((p3 - s2) - s0)) (kR b244) (kI 0) (kI 0))) rfl ?_
                refine XS.iload X244.here hx rfl (hb hby d1_183) rfl ?_
                refine XS.iloadN X244.here hx rfl (hb hby d1_185) rfl ?_
                show Steps _ _ _ (T244.setTop (mkF m 186 (Lq1n3 a1 a2 p3 b2 b5 (kI 2) (kR b59) (kI ((p3 - s2) - s0)) (kR b244) (kI 0) (kI 0)) [(.int (3 : Int32)), (.int (0 : Int32))])) _
                refine XS.icmpNo X244.here hx rfl (hb hby d1_186) rfl (tlt (by decide : (0 : Int32) < (3 : Int32))).2.1 ?_
                refine XS.aload X244.here hx rfl (hb hby d1_189) rfl rfl ?_
                refine XS.iload X244.here hx rfl (hb hby d1_191) rfl ?_
                refine X244.baloadBooleans hx (j := (0 : Int32)) (v := (.int (1 : Int32))) (by rw [e244]; exact A259.1) (State.isArrayOf_alike hZ.alike A259.2.1) A259.2.2 hin259 hat259 (g := (mkF m 193 (Lq1n3 a1 a2 p3 b2 b5 (kI 2) (kR b59) (kI ((p3 - s2) - s0)) (kR b244) (kI 0) (kI 0)) [(.int (0 : Int32)), (.ref b59)])) rfl rfl (hb hby d1_193) _ ?_
                show Steps _ _ _ (T244.setTop (mkF m 194 (Lq1n3 a1 a2 p3 b2 b5 (kI 2) (kR b59) (kI ((p3 - s2) - s0)) (kR b244) (kI 0) (kI 0)) [(.int (1 : Int32))])) _
                refine XS.ifNo X244.here hx rfl (hb hby d1_194) rfl ((if0 _ _).trans (feq (by decide : ¬ ((1 : Int32) = (0 : Int32)))).1) ?_
                refine XS.aload X244.here hx rfl (hb hby d1_197) rfl rfl ?_
                refine XS.iload X244.here hx rfl (hb hby d1_199) rfl ?_
                show Steps _ _ _ (T244.setTop (mkF m 201 (Lq1n3 a1 a2 p3 b2 b5 (kI 2) (kR b59) (kI ((p3 - s2) - s0)) (kR b244) (kI 0) (kI 0)) [(.int (0 : Int32)), (.ref b244)])) _
                refine XS.iinc X244.here hx rfl (hb hby d1_201) rfl (l' := (Lq1n3 a1 a2 p3 b2 b5 (kI 2) (kR b59) (kI ((p3 - s2) - s0)) (kR b244) (kI 1) (kI 0))) rfl ?_
                refine XS.iload X244.here hx rfl (hb hby d1_204) rfl ?_
                refine st261 _ ?_
                refine XS.iinc X261.here hx rfl (hb hby d1_207) rfl (l' := (Lq1n3 a1 a2 p3 b2 b5 (kI 2) (kR b59) (kI ((p3 - s2) - s0)) (kR b244) (kI 1) (kI 1))) rfl ?_
                show Steps _ _ _ (T261.setTop (mkF m 210 (Lq1n3 a1 a2 p3 b2 b5 (kI 2) (kR b59) (kI ((p3 - s2) - s0)) (kR b244) (kI 1) (kI 1)) [])) _
                refine XS.goto X261.here hx rfl (pc0 := 210) (pc' := 183) rfl (hb hby d1_210) (by decide) (by decide) ?_
                refine XS.iload X261.here hx rfl (hb hby d1_183) rfl ?_
                refine XS.iloadN X261.here hx rfl (hb hby d1_185) rfl ?_
                show Steps _ _ _ (T261.setTop (mkF m 186 (Lq1n3 a1 a2 p3 b2 b5 (kI 2) (kR b59) (kI ((p3 - s2) - s0)) (kR b244) (kI 1) (kI 1)) [(.int (3 : Int32)), (.int (1 : Int32))])) _
                refine XS.icmpNo X261.here hx rfl (hb hby d1_186) rfl (tlt (by decide : (1 : Int32) < (3 : Int32))).2.1 ?_
                refine XS.aload X261.here hx rfl (hb hby d1_189) rfl rfl ?_
                refine XS.iload X261.here hx rfl (hb hby d1_191) rfl ?_
                refine X261.baloadBooleans hx (j := (1 : Int32)) (v := (.int (0 : Int32))) (by rw [e261]; exact A262.1) (State.isArrayOf_alike hZ.alike A262.2.1) A262.2.2 hin262 hat262 (g := (mkF m 193 (Lq1n3 a1 a2 p3 b2 b5 (kI 2) (kR b59) (kI ((p3 - s2) - s0)) (kR b244) (kI 1) (kI 1)) [(.int (1 : Int32)), (.ref b59)])) rfl rfl (hb hby d1_193) _ ?_
                show Steps _ _ _ (T261.setTop (mkF m 194 (Lq1n3 a1 a2 p3 b2 b5 (kI 2) (kR b59) (kI ((p3 - s2) - s0)) (kR b244) (kI 1) (kI 1)) [(.int (0 : Int32))])) _
                refine XS.ifYes X261.here hx rfl (pc0 := 194) (pc' := 207) rfl (hb hby d1_194) rfl ((if0 _ _).trans (teq (rfl : (0 : Int32) = (0 : Int32))).1) (by decide) (by decide) ?_
                refine XS.iinc X261.here hx rfl (hb hby d1_207) rfl (l' := (Lq1n3 a1 a2 p3 b2 b5 (kI 2) (kR b59) (kI ((p3 - s2) - s0)) (kR b244) (kI 1) (kI 2))) rfl ?_
                refine XS.goto X261.here hx rfl (pc0 := 210) (pc' := 183) rfl (hb hby d1_210) (by decide) (by decide) ?_
                show Steps _ _ _ (T261.setTop (mkF m 183 (Lq1n3 a1 a2 p3 b2 b5 (kI 2) (kR b59) (kI ((p3 - s2) - s0)) (kR b244) (kI 1) (kI 2)) [])) _
                refine XS.iload X261.here hx rfl (hb hby d1_183) rfl ?_
                refine XS.iloadN X261.here hx rfl (hb hby d1_185) rfl ?_
                refine XS.icmpNo X261.here hx rfl (hb hby d1_186) rfl (tlt (by decide : (2 : Int32) < (3 : Int32))).2.1 ?_
                show Steps _ _ _ (T261.setTop (mkF m 189 (Lq1n3 a1 a2 p3 b2 b5 (kI 2) (kR b59) (kI ((p3 - s2) - s0)) (kR b244) (kI 1) (kI 2)) [])) _
                refine XS.aload X261.here hx rfl (hb hby d1_189) rfl rfl ?_
                refine XS.iload X261.here hx rfl (hb hby d1_191) rfl ?_
                refine X261.baloadBooleans hx (j := (2 : Int32)) (v := (.int (1 : Int32))) (by rw [e261]; exact A264.1) (State.isArrayOf_alike hZ.alike A264.2.1) A264.2.2 hin264 hat264 (g := (mkF m 193 (Lq1n3 a1 a2 p3 b2 b5 (kI 2) (kR b59) (kI ((p3 - s2) - s0)) (kR b244) (kI 1) (kI 2)) [(.int (2 : Int32)), (.ref b59)])) rfl rfl (hb hby d1_193) _ ?_
                refine XS.ifNo X261.here hx rfl (hb hby d1_194) rfl ((if0 _ _).trans (feq (by decide : ¬ ((1 : Int32) = (0 : Int32)))).1) ?_
                show Steps _ _ _ (T261.setTop (mkF m 197 (Lq1n3 a1 a2 p3 b2 b5 (kI 2) (kR b59) (kI ((p3 - s2) - s0)) (kR b244) (kI 1) (kI 2)) [])) _
                refine XS.aload X261.here hx rfl (hb hby d1_197) rfl rfl ?_
                refine XS.iload X261.here hx rfl (hb hby d1_199) rfl ?_
                refine XS.iinc X261.here hx rfl (hb hby d1_201) rfl (l' := (Lq1n3 a1 a2 p3 b2 b5 (kI 2) (kR b59) (kI ((p3 - s2) - s0)) (kR b244) (kI 2) (kI 2))) rfl ?_
                show Steps _ _ _ (T261.setTop (mkF m 204 (Lq1n3 a1 a2 p3 b2 b5 (kI 2) (kR b59) (kI ((p3 - s2) - s0)) (kR b244) (kI 2) (kI 2)) [(.int (1 : Int32)), (.ref b244)])) _
                refine XS.iload X261.here hx rfl (hb hby d1_204) rfl ?_
                refine st265 _ ?_
                refine XS.iinc X265.here hx rfl (hb hby d1_207) rfl (l' := (Lq1n3 a1 a2 p3 b2 b5 (kI 2) (kR b59) (kI ((p3 - s2) - s0)) (kR b244) (kI 2) (kI 3))) rfl ?_
                refine XS.goto X265.here hx rfl (pc0 := 210) (pc' := 183) rfl (hb hby d1_210) (by decide) (by decide) ?_
                show Steps _ _ _ (T265.setTop (mkF m 183 (Lq1n3 a1 a2 p3 b2 b5 (kI 2) (kR b59) (kI ((p3 - s2) - s0)) (kR b244) (kI 2) (kI 3)) [])) _
                refine XS.iload X265.here hx rfl (hb hby d1_183) rfl ?_
                refine XS.iloadN X265.here hx rfl (hb hby d1_185) rfl ?_
                refine XS.icmpYes X265.here hx rfl (pc0 := 186) (pc' := 213) rfl (hb hby d1_186) rfl (flt (by decide : ¬ ((3 : Int32) < (3 : Int32)))).2.1 (by decide) (by decide) ?_
                show Steps _ _ _ (T265.setTop (mkF m 213 (Lq1n3 a1 a2 p3 b2 b5 (kI 2) (kR b59) (kI ((p3 - s2) - s0)) (kR b244) (kI 2) (kI 3)) [])) _
                refine XS.aload X265.here hx rfl (hb hby d1_213) rfl rfl ?_
                show Steps _ _ _ (T265.setTop (mkF m 215 (Lq1n3 a1 a2 p3 b2 b5 (kI 2) (kR b59) (kI ((p3 - s2) - s0)) (kR b244) (kI 2) (kI 3)) [(.ref b244)])) _
                jvm_step X265.here [X265.here.top, hx, (hb hby d1_215), X265.method', Bd.returns, Value.isRef, FieldType.isReference]
                first | (intro acts; rw [hr _ acts rfl rfl rfl]) | rw [hr _ _ rfl rfl rfl]
                exact Steps.refl _
              · show Q1n3 Z a1 a2 p3 s0 s1 s2 v0 v1 v2 h0 n0 _ T265.heap _
                rw [e265]
                exact ⟨b244, (2 : Int32), [.int (0 : Int32), .int (2 : Int32)], rfl, N265, K265, g_b244, sz_b244, V265, (Or.inr (Or.inr (Or.inr (Or.inr (Or.inr (Or.inl ⟨rfl, rfl, own_fin hcap hs0 hs1 hs2 hv0 hv1 hv2 hI0 hI1 hI2 hT201 hT212 hT239⟩))))))⟩
          · have hT267 : own_tr ut1 s1 (p3 - s2) true ((p3 - s2) - s1) := Or.inr ⟨rfl, hc211, rfl⟩
            have hr268 : own_rg ((p3 - s2) - s1) p3 := own_rm0 hcap hr202 hs1 hI1 hc211
            obtain ⟨cl269, A269, S269, Nl269, M269⟩ := id V203
            have hin269 : ¬ ((1 : Int32) < 0 ∨ cl269.slots.size ≤ ((1 : Int32)).toNatClampNeg) := AV.inb S269 Nl269 ⟨by decide, by decide⟩
            obtain ⟨T269, h269, X269, e269, W269, st269⟩ := stZ X203 hx hZ e203 A269 (j := (1 : Int32)) hin269 (g := (mkF m 152 (Lq1n3 a1 a2 p3 b2 b5 (kI 1) (kR b59) (kI (p3 - s2)) (kI 1) kU kU) [(.int (1 : Int32)), (.int (1 : Int32)), (.ref b59)])) rfl rfl (hb hby d1_152)
            have V269 : AV Z h269 b59 .boolean (3 : Int32) [(.int (0 : Int32)), (.int (1 : Int32)), (.int (1 : Int32))] := AV.set A269 S269 Nl269 M269 W269
            have K269 : Keep h0 h269 [] := K203.wr W269 (Or.inr sz_b59)
            have N269 := Fr.snoc X269 N203 g_b59
            have F271 := (F205.other W269 ne67)
            obtain ⟨cl270, A270, S270, Nl270, M270⟩ := id F271
            have hin270 : ¬ ((1 : Int32) < 0 ∨ cl270.slots.size ≤ ((1 : Int32)).toNatClampNeg) := AV.inb S270 Nl270 ⟨by decide, by decide⟩
            have hat270 : cl270.slots[((1 : Int32)).toNatClampNeg]? = some (.int s1) := AV.at S270 rfl
            have F273 := (F207.other W269 ne71)
            obtain ⟨cl272, A272, S272, Nl272, M272⟩ := id F273
            have hin272 : ¬ ((0 : Int32) < 0 ∨ cl272.slots.size ≤ ((0 : Int32)).toNatClampNeg) := AV.inb S272 Nl272 ⟨by decide, by decide⟩
            have hat272 : cl272.slots[((0 : Int32)).toNatClampNeg]? = some (.ref b11) := AV.at S272 rfl
            have F275 := (((((((((Lf22_1.ext E25).other W35 (Ne.symm ne18)).keep Kl38 (ninS (Ne.symm ne17) (ninS ne27 nin0))).ext E41).other W53 (Ne.symm ne18)).keep Kl56 (ninS (Ne.symm ne17) (ninS ne43 nin0))).ext E59).other W203 ne61).other W269 ne61)
            obtain ⟨cl274, A274, S274, M274, G274⟩ := id F275
            have hin274 : ¬ (((p3 - s2) - s1) < 0 ∨ cl274.slots.size ≤ (((p3 - s2) - s1)).toNatClampNeg) := inb_of S274 (own_ixr hcap hr268)
            have hat274 : cl274.slots[(((p3 - s2) - s1)).toNatClampNeg]? = some (.int (ut0 (((p3 - s2) - s1)).toNatClampNeg)) := AI.at S274 G274 hin274
            have pre276 : ∀ t, Steps p.tables e below (T269.setTop (mkF m 144 (Lq1n3 a1 a2 p3 b2 b5 (kI 2) (kR b59) (kI ((p3 - s2) - s1)) (kI 0) kU kU) [(.int (ut0 (((p3 - s2) - s1)).toNatClampNeg))])) t → Steps p.tables e below (s₁.setTop (entryFrame m #[(.ref a1), (.ref a2), (.int p3)] 12)) t := fun t k => pre210 t (by
              show Steps _ _ _ (T203.setTop (mkF m 144 (Lq1n3 a1 a2 p3 b2 b5 (kI 1) (kR b59) (kI (p3 - s2)) (kI 1) kU kU) [(.int (ut1 ((p3 - s2)).toNatClampNeg))])) _
              refine XS.ifNo X203.here hx rfl (hb hby d1_144) rfl ((if0 _ _).trans (feq hc211).1) ?_
              refine XS.aload X203.here hx rfl (hb hby d1_147) rfl rfl ?_
              show Steps _ _ _ (T203.setTop (mkF m 149 (Lq1n3 a1 a2 p3 b2 b5 (kI 1) (kR b59) (kI (p3 - s2)) (kI 1) kU kU) [(.ref b59)])) _
              refine XS.iload X203.here hx rfl (hb hby d1_149) rfl ?_
              refine XS.iconst X203.here hx rfl (hb hby d1_151) ?_
              refine st269 _ ?_
              refine XS.iinc X269.here hx rfl (hb hby d1_153) rfl (l' := (Lq1n3 a1 a2 p3 b2 b5 (kI 2) (kR b59) (kI (p3 - s2)) (kI 1) kU kU)) rfl ?_
              show Steps _ _ _ (T269.setTop (mkF m 156 (Lq1n3 a1 a2 p3 b2 b5 (kI 2) (kR b59) (kI (p3 - s2)) (kI 1) kU kU) [])) _
              refine XS.iload X269.here hx rfl (hb hby d1_156) rfl ?_
              refine XS.aloadN X269.here hx rfl (hb hby d1_158) rfl rfl ?_
              refine XS.iload X269.here hx rfl (hb hby d1_159) rfl ?_
              refine X269.iaload hx (j := (1 : Int32)) (v := (.int s1)) (by rw [e269]; exact A270.1) (State.isArrayOf_alike hZ.alike A270.2.1) A270.2.2 hin270 hat270 (g := (mkF m 161 (Lq1n3 a1 a2 p3 b2 b5 (kI 2) (kR b59) (kI (p3 - s2)) (kI 1) kU kU) [(.int (1 : Int32)), (.ref a1), (.int (p3 - s2))])) rfl rfl (hb hby d1_161) _ ?_
              show Steps _ _ _ (T269.setTop (mkF m 162 (Lq1n3 a1 a2 p3 b2 b5 (kI 2) (kR b59) (kI (p3 - s2)) (kI 1) kU kU) [(.int s1), (.int (p3 - s2))])) _
              refine XS.isub X269.here hx rfl (hb hby d1_162) rfl ?_
              refine XS.istore X269.here hx rfl (hb hby d1_163) rfl (l' := (Lq1n3 a1 a2 p3 b2 b5 (kI 2) (kR b59) (kI ((p3 - s2) - s1)) (kI 1) kU kU)) rfl ?_
              refine XS.iinc X269.here hx rfl (hb hby d1_165) rfl (l' := (Lq1n3 a1 a2 p3 b2 b5 (kI 2) (kR b59) (kI ((p3 - s2) - s1)) (kI 0) kU kU)) rfl ?_
              show Steps _ _ _ (T269.setTop (mkF m 168 (Lq1n3 a1 a2 p3 b2 b5 (kI 2) (kR b59) (kI ((p3 - s2) - s1)) (kI 0) kU kU) [])) _
              refine XS.goto X269.here hx rfl (pc0 := 168) (pc' := 131) rfl (hb hby d1_168) (by decide) (by decide) ?_
              refine XS.iload X269.here hx rfl (hb hby d1_131) rfl ?_
              refine XS.ifNo X269.here hx rfl (hb hby d1_133) rfl ((if0 _ _).trans (flt (by decide : ¬ ((0 : Int32) < (0 : Int32)))).1) ?_
              show Steps _ _ _ (T269.setTop (mkF m 136 (Lq1n3 a1 a2 p3 b2 b5 (kI 2) (kR b59) (kI ((p3 - s2) - s1)) (kI 0) kU kU) [])) _
              refine XS.aload X269.here hx rfl (hb hby d1_136) rfl rfl ?_
              refine XS.iload X269.here hx rfl (hb hby d1_138) rfl ?_
              refine X269.aaload hx (j := (0 : Int32)) (v := (.ref b11)) (by rw [e269]; exact A272.1) (State.isArrayOf_alike hZ.alike A272.2.1) rfl A272.2.2 hin272 hat272 (g := (mkF m 140 (Lq1n3 a1 a2 p3 b2 b5 (kI 2) (kR b59) (kI ((p3 - s2) - s1)) (kI 0) kU kU) [(.int (0 : Int32)), (.ref b5)])) rfl rfl (hb hby d1_140) _ ?_
              refine XS.iload X269.here hx rfl (hb hby d1_141) rfl ?_
              refine X269.baloadBooleans hx (j := ((p3 - s2) - s1)) (v := (.int (ut0 (((p3 - s2) - s1)).toNatClampNeg))) (by rw [e269]; exact A274.1) (State.isArrayOf_alike hZ.alike A274.2.1) A274.2.2 hin274 hat274 (g := (mkF m 143 (Lq1n3 a1 a2 p3 b2 b5 (kI 2) (kR b59) (kI ((p3 - s2) - s1)) (kI 0) kU kU) [(.int ((p3 - s2) - s1)), (.ref b11)])) rfl rfl (hb hby d1_143) _ ?_
              exact k)
            by_cases hc277 : (ut0 (((p3 - s2) - s1)).toNatClampNeg) = (0 : Int32)
            · have hT278 : own_tr ut0 s0 ((p3 - s2) - s1) false ((p3 - s2) - s1) := Or.inl ⟨rfl, hc277, rfl⟩
              obtain ⟨T279, h279, k279, X279, e279, E279, A279, st279⟩ := newP X269 hx hZ (hw _ (List.mem_of_getElem? (i := 0) rfl)) e269 (g := (mkF m 173 (Lq1n3 a1 a2 p3 b2 b5 (kI 2) (kR b59) (kI ((p3 - s2) - s1)) (kI (-1)) kU kU) [(.int (2 : Int32))])) rfl (hb hby d1_173) rfl (by decide) (cap := 2) (by decide) (by decide) (by decide) (by decide)
              obtain ⟨b279, g279⟩ : ∃ z, z = h269.size := ⟨_, rfl⟩
              rw [← g279] at A279 st279
              have F280 := (((F60.ext E59).wr W203).wr W269)
              have ne281 : b11 ≠ b279 := Nat.ne_of_lt (Nat.lt_of_lt_of_le F280.lt (Nat.le_of_eq g279.symm))
              have F282 := (((F62.ext E59).wr W203).wr W269)
              have ne283 : b25 ≠ b279 := Nat.ne_of_lt (Nat.lt_of_lt_of_le F282.lt (Nat.le_of_eq g279.symm))
              have F284 := (((F64.ext E59).wr W203).wr W269)
              have ne285 : b41 ≠ b279 := Nat.ne_of_lt (Nat.lt_of_lt_of_le F284.lt (Nat.le_of_eq g279.symm))
              have ne286 : a1 ≠ b279 := Nat.ne_of_lt (Nat.lt_of_lt_of_le F271.lt (Nat.le_of_eq g279.symm))
              have F287 := (((F68.ext E59).other W203 ne69).other W269 ne69)
              have ne288 : a2 ≠ b279 := Nat.ne_of_lt (Nat.lt_of_lt_of_le F287.lt (Nat.le_of_eq g279.symm))
              have ne289 : b5 ≠ b279 := Nat.ne_of_lt (Nat.lt_of_lt_of_le F273.lt (Nat.le_of_eq g279.symm))
              have F290 := (((Lf56_0.ext E59).other W203 ne72).other W269 ne72)
              have ne291 : b2 ≠ b279 := Nat.ne_of_lt (Nat.lt_of_lt_of_le F290.lt (Nat.le_of_eq g279.symm))
              have ne292 : b59 ≠ b279 := Nat.ne_of_lt (Nat.lt_of_lt_of_le V269.lt (Nat.le_of_eq g279.symm))
              have g_b279 : n0 ≤ b279 := Nat.le_trans (Nat.le_trans Z0 K269.1) (Nat.le_of_eq g279.symm)
              have sz_b279 : h0.size ≤ b279 := Nat.le_trans K269.1 (Nat.le_of_eq g279.symm)
              have K279 : Keep h0 h279 [] := K269.ext E279
              have V_b279 : AV Z h279 b279 .int (2 : Int32) [(.int (0 : Int32)), (.int (0 : Int32))] := AV.new A279 (by decide)
              have F294 := (V269.ext E279)
              obtain ⟨cl293, A293, S293, Nl293, M293⟩ := id F294
              have hin293 : ¬ ((0 : Int32) < 0 ∨ cl293.slots.size ≤ ((0 : Int32)).toNatClampNeg) := AV.inb S293 Nl293 ⟨by decide, by decide⟩
              have hat293 : cl293.slots[((0 : Int32)).toNatClampNeg]? = some (.int (0 : Int32)) := AV.at S293 rfl
              obtain ⟨cl295, A295, S295, Nl295, M295⟩ := id F294
              have hin295 : ¬ ((1 : Int32) < 0 ∨ cl295.slots.size ≤ ((1 : Int32)).toNatClampNeg) := AV.inb S295 Nl295 ⟨by decide, by decide⟩
              have hat295 : cl295.slots[((1 : Int32)).toNatClampNeg]? = some (.int (1 : Int32)) := AV.at S295 rfl
              obtain ⟨cl296, A296, S296, Nl296, M296⟩ := id V_b279
              have hin296 : ¬ ((0 : Int32) < 0 ∨ cl296.slots.size ≤ ((0 : Int32)).toNatClampNeg) := AV.inb S296 Nl296 ⟨by decide, by decide⟩
              obtain ⟨T296, h296, X296, e296, W296, st296⟩ := stI X279 hx hZ e279 A296 (j := (0 : Int32)) hin296 (g := (mkF m 206 (Lq1n3 a1 a2 p3 b2 b5 (kI 2) (kR b59) (kI ((p3 - s2) - s1)) (kR b279) (kI 1) (kI 1)) [(.int (1 : Int32)), (.int (0 : Int32)), (.ref b279)])) rfl rfl (hb hby d1_206)
              have V296 : AV Z h296 b279 .int (2 : Int32) [(.int (1 : Int32)), (.int (0 : Int32))] := AV.set A296 S296 Nl296 M296 W296
              have K296 : Keep h0 h296 [] := K279.wr W296 (Or.inr sz_b279)
              have N296 := Fr.snoc X296 N269 g_b279
              have F298 := (F294.other W296 ne292)
              obtain ⟨cl297, A297, S297, Nl297, M297⟩ := id F298
              have hin297 : ¬ ((2 : Int32) < 0 ∨ cl297.slots.size ≤ ((2 : Int32)).toNatClampNeg) := AV.inb S297 Nl297 ⟨by decide, by decide⟩
              have hat297 : cl297.slots[((2 : Int32)).toNatClampNeg]? = some (.int (1 : Int32)) := AV.at S297 rfl
              obtain ⟨cl299, A299, S299, Nl299, M299⟩ := id V296
              have hin299 : ¬ ((1 : Int32) < 0 ∨ cl299.slots.size ≤ ((1 : Int32)).toNatClampNeg) := AV.inb S299 Nl299 ⟨by decide, by decide⟩
              obtain ⟨T299, h299, X299, e299, W299, st299⟩ := stI X296 hx hZ e296 A299 (j := (1 : Int32)) hin299 (g := (mkF m 206 (Lq1n3 a1 a2 p3 b2 b5 (kI 2) (kR b59) (kI ((p3 - s2) - s1)) (kR b279) (kI 2) (kI 2)) [(.int (2 : Int32)), (.int (1 : Int32)), (.ref b279)])) rfl rfl (hb hby d1_206)
              have V299 : AV Z h299 b279 .int (2 : Int32) [(.int (1 : Int32)), (.int (2 : Int32))] := AV.set A299 S299 Nl299 M299 W299
              have K299 : Keep h0 h299 [] := K296.wr W299 (Or.inr sz_b279)
              have N299 := Fr.snoc X299 N296 g_b279
              obtain ⟨fs, hr, hrun, hended, hW, hsame⟩ := X299.leave (v := some (.ref b279)) (fun h => by rw [Bd.returns] at h; cases h) hlk
              refine ⟨_, _, pre276 _ ?_, hrun, hended, _, _, rfl, ?_, ⟨_, rfl⟩, hW, hsame.mono (by decide) (by decide)⟩
              · show Steps _ _ _ (T269.setTop (mkF m 144 (Lq1n3 a1 a2 p3 b2 b5 (kI 2) (kR b59) (kI ((p3 - s2) - s1)) (kI 0) kU kU) [(.int (ut0 (((p3 - s2) - s1)).toNatClampNeg))])) _
                refine XS.ifYes X269.here hx rfl (pc0 := 144) (pc' := 165) rfl (hb hby d1_144) rfl ((if0 _ _).trans (teq hc277).1) (by decide) (by decide) ?_
                refine XS.iinc X269.here hx rfl (hb hby d1_165) rfl (l' := (Lq1n3 a1 a2 p3 b2 b5 (kI 2) (kR b59) (kI ((p3 - s2) - s1)) (kI (-1)) kU kU)) rfl ?_
                refine XS.goto X269.here hx rfl (pc0 := 168) (pc' := 131) rfl (hb hby d1_168) (by decide) (by decide) ?_
                show Steps _ _ _ (T269.setTop (mkF m 131 (Lq1n3 a1 a2 p3 b2 b5 (kI 2) (kR b59) (kI ((p3 - s2) - s1)) (kI (-1)) kU kU) [])) _
                refine XS.iload X269.here hx rfl (hb hby d1_131) rfl ?_
                refine XS.ifYes X269.here hx rfl (pc0 := 133) (pc' := 171) rfl (hb hby d1_133) rfl ((if0 _ _).trans (tlt (by decide : (-1 : Int32) < (0 : Int32))).1) (by decide) (by decide) ?_
                refine XS.iload X269.here hx rfl (hb hby d1_171) rfl ?_
                refine st279 _ ?_
                show Steps _ _ _ (T279.setTop (mkF m 175 (Lq1n3 a1 a2 p3 b2 b5 (kI 2) (kR b59) (kI ((p3 - s2) - s1)) (kI (-1)) kU kU) [(.ref b279)])) _
                refine XS.astore X279.here hx rfl (hb hby d1_175) rfl rfl (l' := (Lq1n3 a1 a2 p3 b2 b5 (kI 2) (kR b59) (kI ((p3 - s2) - s1)) (kR b279) kU kU)) rfl ?_
                refine XS.iconst X279.here hx rfl (hb hby d1_177) ?_
                refine XS.istore X279.here hx rfl (hb hby d1_178) rfl (l' := (Lq1n3 a1 a2 p3 b2 b5 (kI 2) (kR b59) (kI ((p3 - s2) - s1)) (kR b279) (kI 0) kU)) rfl ?_
                show Steps _ _ _ (T279.setTop (mkF m 180 (Lq1n3 a1 a2 p3 b2 b5 (kI 2) (kR b59) (kI ((p3 - s2) - s1)) (kR b279) (kI 0) kU) [])) _
                refine XS.iconst X279.here hx rfl (hb hby d1_180) ?_
                refine XS.istore X279.here hx rfl (hb hby d1_181) rfl (l' := (Lq1n3 a1 a2 p3 b2 b5 (kI 2) (kR b59) (kI ((p3 - s2) - s1)) (kR b279) (kI 0) (kI 0))) rfl ?_
                refine XS.iload X279.here hx rfl (hb hby d1_183) rfl ?_
                show Steps _ _ _ (T279.setTop (mkF m 185 (Lq1n3 a1 a2 p3 b2 b5 (kI 2) (kR b59) (kI ((p3 - s2) - s1)) (kR b279) (kI 0) (kI 0)) [(.int (0 : Int32))])) _
                refine XS.iloadN X279.here hx rfl (hb hby d1_185) rfl ?_
                refine XS.icmpNo X279.here hx rfl (hb hby d1_186) rfl (tlt (by decide : (0 : Int32) < (3 : Int32))).2.1 ?_
                refine XS.aload X279.here hx rfl (hb hby d1_189) rfl rfl ?_
                show Steps _ _ _ (T279.setTop (mkF m 191 (Lq1n3 a1 a2 p3 b2 b5 (kI 2) (kR b59) (kI ((p3 - s2) - s1)) (kR b279) (kI 0) (kI 0)) [(.ref b59)])) _
                refine XS.iload X279.here hx rfl (hb hby d1_191) rfl ?_
                refine X279.baloadBooleans hx (j := (0 : Int32)) (v := (.int (0 : Int32))) (by rw [e279]; exact A293.1) (State.isArrayOf_alike hZ.alike A293.2.1) A293.2.2 hin293 hat293 (g := (mkF m 193 (Lq1n3 a1 a2 p3 b2 b5 (kI 2) (kR b59) (kI ((p3 - s2) - s1)) (kR b279) (kI 0) (kI 0)) [(.int (0 : Int32)), (.ref b59)])) rfl rfl (hb hby d1_193) _ ?_
                refine XS.ifYes X279.here hx rfl (pc0 := 194) (pc' := 207) rfl (hb hby d1_194) rfl ((if0 _ _).trans (teq (rfl : (0 : Int32) = (0 : Int32))).1) (by decide) (by decide) ?_
                refine XS.iinc X279.here hx rfl (hb hby d1_207) rfl (l' := (Lq1n3 a1 a2 p3 b2 b5 (kI 2) (kR b59) (kI ((p3 - s2) - s1)) (kR b279) (kI 0) (kI 1))) rfl ?_
                show Steps _ _ _ (T279.setTop (mkF m 210 (Lq1n3 a1 a2 p3 b2 b5 (kI 2) (kR b59) (kI ((p3 - s2) - s1)) (kR b279) (kI 0) (kI 1)) [])) _
                refine XS.goto X279.here hx rfl (pc0 := 210) (pc' := 183) rfl (hb hby d1_210) (by decide) (by decide) ?_
                refine XS.iload X279.here hx rfl (hb hby d1_183) rfl ?_
                refine XS.iloadN X279.here hx rfl (hb hby d1_185) rfl ?_
                show Steps _ _ _ (T279.setTop (mkF m 186 (Lq1n3 a1 a2 p3 b2 b5 (kI 2) (kR b59) (kI ((p3 - s2) - s1)) (kR b279) (kI 0) (kI 1)) [(.int (3 : Int32)), (.int (1 : Int32))])) _
                refine XS.icmpNo X279.here hx rfl (hb hby d1_186) rfl (tlt (by decide : (1 : Int32) < (3 : Int32))).2.1 ?_
                refine XS.aload X279.here hx rfl (hb hby d1_189) rfl rfl ?_
                refine XS.iload X279.here hx rfl (hb hby d1_191) rfl ?_
                refine X279.baloadBooleans hx (j := (1 : Int32)) (v := (.int (1 : Int32))) (by rw [e279]; exact A295.1) (State.isArrayOf_alike hZ.alike A295.2.1) A295.2.2 hin295 hat295 (g := (mkF m 193 (Lq1n3 a1 a2 p3 b2 b5 (kI 2) (kR b59) (kI ((p3 - s2) - s1)) (kR b279) (kI 0) (kI 1)) [(.int (1 : Int32)), (.ref b59)])) rfl rfl (hb hby d1_193) _ ?_
                show Steps _ _ _ (T279.setTop (mkF m 194 (Lq1n3 a1 a2 p3 b2 b5 (kI 2) (kR b59) (kI ((p3 - s2) - s1)) (kR b279) (kI 0) (kI 1)) [(.int (1 : Int32))])) _
                refine XS.ifNo X279.here hx rfl (hb hby d1_194) rfl ((if0 _ _).trans (feq (by decide : ¬ ((1 : Int32) = (0 : Int32)))).1) ?_
                refine XS.aload X279.here hx rfl (hb hby d1_197) rfl rfl ?_
                refine XS.iload X279.here hx rfl (hb hby d1_199) rfl ?_
                show Steps _ _ _ (T279.setTop (mkF m 201 (Lq1n3 a1 a2 p3 b2 b5 (kI 2) (kR b59) (kI ((p3 - s2) - s1)) (kR b279) (kI 0) (kI 1)) [(.int (0 : Int32)), (.ref b279)])) _
                refine XS.iinc X279.here hx rfl (hb hby d1_201) rfl (l' := (Lq1n3 a1 a2 p3 b2 b5 (kI 2) (kR b59) (kI ((p3 - s2) - s1)) (kR b279) (kI 1) (kI 1))) rfl ?_
                refine XS.iload X279.here hx rfl (hb hby d1_204) rfl ?_
                refine st296 _ ?_
                refine XS.iinc X296.here hx rfl (hb hby d1_207) rfl (l' := (Lq1n3 a1 a2 p3 b2 b5 (kI 2) (kR b59) (kI ((p3 - s2) - s1)) (kR b279) (kI 1) (kI 2))) rfl ?_
                show Steps _ _ _ (T296.setTop (mkF m 210 (Lq1n3 a1 a2 p3 b2 b5 (kI 2) (kR b59) (kI ((p3 - s2) - s1)) (kR b279) (kI 1) (kI 2)) [])) _
                refine XS.goto X296.here hx rfl (pc0 := 210) (pc' := 183) rfl (hb hby d1_210) (by decide) (by decide) ?_
                refine XS.iload X296.here hx rfl (hb hby d1_183) rfl ?_
                refine XS.iloadN X296.here hx rfl (hb hby d1_185) rfl ?_
                show Steps _ _ _ (T296.setTop (mkF m 186 (Lq1n3 a1 a2 p3 b2 b5 (kI 2) (kR b59) (kI ((p3 - s2) - s1)) (kR b279) (kI 1) (kI 2)) [(.int (3 : Int32)), (.int (2 : Int32))])) _
                refine XS.icmpNo X296.here hx rfl (hb hby d1_186) rfl (tlt (by decide : (2 : Int32) < (3 : Int32))).2.1 ?_
                refine XS.aload X296.here hx rfl (hb hby d1_189) rfl rfl ?_
                refine XS.iload X296.here hx rfl (hb hby d1_191) rfl ?_
                refine X296.baloadBooleans hx (j := (2 : Int32)) (v := (.int (1 : Int32))) (by rw [e296]; exact A297.1) (State.isArrayOf_alike hZ.alike A297.2.1) A297.2.2 hin297 hat297 (g := (mkF m 193 (Lq1n3 a1 a2 p3 b2 b5 (kI 2) (kR b59) (kI ((p3 - s2) - s1)) (kR b279) (kI 1) (kI 2)) [(.int (2 : Int32)), (.ref b59)])) rfl rfl (hb hby d1_193) _ ?_
                show Steps _ _ _ (T296.setTop (mkF m 194 (Lq1n3 a1 a2 p3 b2 b5 (kI 2) (kR b59) (kI ((p3 - s2) - s1)) (kR b279) (kI 1) (kI 2)) [(.int (1 : Int32))])) _
                refine XS.ifNo X296.here hx rfl (hb hby d1_194) rfl ((if0 _ _).trans (feq (by decide : ¬ ((1 : Int32) = (0 : Int32)))).1) ?_
                refine XS.aload X296.here hx rfl (hb hby d1_197) rfl rfl ?_
                refine XS.iload X296.here hx rfl (hb hby d1_199) rfl ?_
                show Steps _ _ _ (T296.setTop (mkF m 201 (Lq1n3 a1 a2 p3 b2 b5 (kI 2) (kR b59) (kI ((p3 - s2) - s1)) (kR b279) (kI 1) (kI 2)) [(.int (1 : Int32)), (.ref b279)])) _
                refine XS.iinc X296.here hx rfl (hb hby d1_201) rfl (l' := (Lq1n3 a1 a2 p3 b2 b5 (kI 2) (kR b59) (kI ((p3 - s2) - s1)) (kR b279) (kI 2) (kI 2))) rfl ?_
                refine XS.iload X296.here hx rfl (hb hby d1_204) rfl ?_
                refine st299 _ ?_
                refine XS.iinc X299.here hx rfl (hb hby d1_207) rfl (l' := (Lq1n3 a1 a2 p3 b2 b5 (kI 2) (kR b59) (kI ((p3 - s2) - s1)) (kR b279) (kI 2) (kI 3))) rfl ?_
                show Steps _ _ _ (T299.setTop (mkF m 210 (Lq1n3 a1 a2 p3 b2 b5 (kI 2) (kR b59) (kI ((p3 - s2) - s1)) (kR b279) (kI 2) (kI 3)) [])) _
                refine XS.goto X299.here hx rfl (pc0 := 210) (pc' := 183) rfl (hb hby d1_210) (by decide) (by decide) ?_
                refine XS.iload X299.here hx rfl (hb hby d1_183) rfl ?_
                refine XS.iloadN X299.here hx rfl (hb hby d1_185) rfl ?_
                show Steps _ _ _ (T299.setTop (mkF m 186 (Lq1n3 a1 a2 p3 b2 b5 (kI 2) (kR b59) (kI ((p3 - s2) - s1)) (kR b279) (kI 2) (kI 3)) [(.int (3 : Int32)), (.int (3 : Int32))])) _
                refine XS.icmpYes X299.here hx rfl (pc0 := 186) (pc' := 213) rfl (hb hby d1_186) rfl (flt (by decide : ¬ ((3 : Int32) < (3 : Int32)))).2.1 (by decide) (by decide) ?_
                refine XS.aload X299.here hx rfl (hb hby d1_213) rfl rfl ?_
                show Steps _ _ _ (T299.setTop (mkF m 215 (Lq1n3 a1 a2 p3 b2 b5 (kI 2) (kR b59) (kI ((p3 - s2) - s1)) (kR b279) (kI 2) (kI 3)) [(.ref b279)])) _
                jvm_step X299.here [X299.here.top, hx, (hb hby d1_215), X299.method', Bd.returns, Value.isRef, FieldType.isReference]
                first | (intro acts; rw [hr _ acts rfl rfl rfl]) | rw [hr _ _ rfl rfl rfl]
                exact Steps.refl _
              · show Q1n3 Z a1 a2 p3 s0 s1 s2 v0 v1 v2 h0 n0 _ T299.heap _
                rw [e299]
                exact ⟨b279, (2 : Int32), [.int (1 : Int32), .int (2 : Int32)], rfl, N299, K299, g_b279, sz_b279, V299, (Or.inr (Or.inr (Or.inr (Or.inr (Or.inr (Or.inr (Or.inl ⟨rfl, rfl, own_fin hcap hs0 hs1 hs2 hv0 hv1 hv2 hI0 hI1 hI2 hT201 hT267 hT278⟩)))))))⟩
            · have hT301 : own_tr ut0 s0 ((p3 - s2) - s1) true (((p3 - s2) - s1) - s0) := Or.inr ⟨rfl, hc277, rfl⟩
              have hr302 : own_rg (((p3 - s2) - s1) - s0) p3 := own_rm0 hcap hr268 hs0 hI0 hc277
              obtain ⟨cl303, A303, S303, Nl303, M303⟩ := id V269
              have hin303 : ¬ ((0 : Int32) < 0 ∨ cl303.slots.size ≤ ((0 : Int32)).toNatClampNeg) := AV.inb S303 Nl303 ⟨by decide, by decide⟩
              obtain ⟨T303, h303, X303, e303, W303, st303⟩ := stZ X269 hx hZ e269 A303 (j := (0 : Int32)) hin303 (g := (mkF m 152 (Lq1n3 a1 a2 p3 b2 b5 (kI 2) (kR b59) (kI ((p3 - s2) - s1)) (kI 0) kU kU) [(.int (1 : Int32)), (.int (0 : Int32)), (.ref b59)])) rfl rfl (hb hby d1_152)
              have V303 : AV Z h303 b59 .boolean (3 : Int32) [(.int (1 : Int32)), (.int (1 : Int32)), (.int (1 : Int32))] := AV.set A303 S303 Nl303 M303 W303
              have K303 : Keep h0 h303 [] := K269.wr W303 (Or.inr sz_b59)
              have N303 := Fr.snoc X303 N269 g_b59
              have F305 := (F271.other W303 ne67)
              obtain ⟨cl304, A304, S304, Nl304, M304⟩ := id F305
              have hin304 : ¬ ((0 : Int32) < 0 ∨ cl304.slots.size ≤ ((0 : Int32)).toNatClampNeg) := AV.inb S304 Nl304 ⟨by decide, by decide⟩
              have hat304 : cl304.slots[((0 : Int32)).toNatClampNeg]? = some (.int s0) := AV.at S304 rfl
              obtain ⟨T306, h306, k306, X306, e306, E306, A306, st306⟩ := newP X303 hx hZ (hw _ (List.mem_of_getElem? (i := 0) rfl)) e303 (g := (mkF m 173 (Lq1n3 a1 a2 p3 b2 b5 (kI 3) (kR b59) (kI (((p3 - s2) - s1) - s0)) (kI (-1)) kU kU) [(.int (3 : Int32))])) rfl (hb hby d1_173) rfl (by decide) (cap := 3) (by decide) (by decide) (by decide) (by decide)
              obtain ⟨b306, g306⟩ : ∃ z, z = h303.size := ⟨_, rfl⟩
              rw [← g306] at A306 st306
              have F307 := ((((F60.ext E59).wr W203).wr W269).wr W303)
              have ne308 : b11 ≠ b306 := Nat.ne_of_lt (Nat.lt_of_lt_of_le F307.lt (Nat.le_of_eq g306.symm))
              have F309 := ((((F62.ext E59).wr W203).wr W269).wr W303)
              have ne310 : b25 ≠ b306 := Nat.ne_of_lt (Nat.lt_of_lt_of_le F309.lt (Nat.le_of_eq g306.symm))
              have F311 := ((((F64.ext E59).wr W203).wr W269).wr W303)
              have ne312 : b41 ≠ b306 := Nat.ne_of_lt (Nat.lt_of_lt_of_le F311.lt (Nat.le_of_eq g306.symm))
              have ne313 : a1 ≠ b306 := Nat.ne_of_lt (Nat.lt_of_lt_of_le F305.lt (Nat.le_of_eq g306.symm))
              have F314 := ((((F68.ext E59).other W203 ne69).other W269 ne69).other W303 ne69)
              have ne315 : a2 ≠ b306 := Nat.ne_of_lt (Nat.lt_of_lt_of_le F314.lt (Nat.le_of_eq g306.symm))
              have F316 := (F273.other W303 ne71)
              have ne317 : b5 ≠ b306 := Nat.ne_of_lt (Nat.lt_of_lt_of_le F316.lt (Nat.le_of_eq g306.symm))
              have F318 := ((((Lf56_0.ext E59).other W203 ne72).other W269 ne72).other W303 ne72)
              have ne319 : b2 ≠ b306 := Nat.ne_of_lt (Nat.lt_of_lt_of_le F318.lt (Nat.le_of_eq g306.symm))
              have ne320 : b59 ≠ b306 := Nat.ne_of_lt (Nat.lt_of_lt_of_le V303.lt (Nat.le_of_eq g306.symm))
              have g_b306 : n0 ≤ b306 := Nat.le_trans (Nat.le_trans Z0 K303.1) (Nat.le_of_eq g306.symm)
              have sz_b306 : h0.size ≤ b306 := Nat.le_trans K303.1 (Nat.le_of_eq g306.symm)
              have K306 : Keep h0 h306 [] := K303.ext E306
              have V_b306 : AV Z h306 b306 .int (3 : Int32) [(.int (0 : Int32)), (.int (0 : Int32)), (.int (0 : Int32))] := AV.new A306 (by decide)
              have F322 := (V303.ext E306)
              obtain ⟨cl321, A321, S321, Nl321, M321⟩ := id F322
              have hin321 : ¬ ((0 : Int32) < 0 ∨ cl321.slots.size ≤ ((0 : Int32)).toNatClampNeg) := AV.inb S321 Nl321 ⟨by decide, by decide⟩
              have hat321 : cl321.slots[((0 : Int32)).toNatClampNeg]? = some (.int (1 : Int32)) := AV.at S321 rfl
              obtain ⟨cl323, A323, S323, Nl323, M323⟩ := id V_b306
              have hin323 : ¬ ((0 : Int32) < 0 ∨ cl323.slots.size ≤ ((0 : Int32)).toNatClampNeg) := AV.inb S323 Nl323 ⟨by decide, by decide⟩
              obtain ⟨T323, h323, X323, e323, W323, st323⟩ := stI X306 hx hZ e306 A323 (j := (0 : Int32)) hin323 (g := (mkF m 206 (Lq1n3 a1 a2 p3 b2 b5 (kI 3) (kR b59) (kI (((p3 - s2) - s1) - s0)) (kR b306) (kI 1) (kI 0)) [(.int (0 : Int32)), (.int (0 : Int32)), (.ref b306)])) rfl rfl (hb hby d1_206)
              have V323 : AV Z h323 b306 .int (3 : Int32) [(.int (0 : Int32)), (.int (0 : Int32)), (.int (0 : Int32))] := AV.set A323 S323 Nl323 M323 W323
              have K323 : Keep h0 h323 [] := K306.wr W323 (Or.inr sz_b306)
              have N323 := Fr.snoc X323 N303 g_b306
              have F325 := (F322.other W323 ne320)
              obtain ⟨cl324, A324, S324, Nl324, M324⟩ := id F325
              have hin324 : ¬ ((1 : Int32) < 0 ∨ cl324.slots.size ≤ ((1 : Int32)).toNatClampNeg) := AV.inb S324 Nl324 ⟨by decide, by decide⟩
              have hat324 : cl324.slots[((1 : Int32)).toNatClampNeg]? = some (.int (1 : Int32)) := AV.at S324 rfl
              obtain ⟨cl326, A326, S326, Nl326, M326⟩ := id V323
              have hin326 : ¬ ((1 : Int32) < 0 ∨ cl326.slots.size ≤ ((1 : Int32)).toNatClampNeg) := AV.inb S326 Nl326 ⟨by decide, by decide⟩
              obtain ⟨T326, h326, X326, e326, W326, st326⟩ := stI X323 hx hZ e323 A326 (j := (1 : Int32)) hin326 (g := (mkF m 206 (Lq1n3 a1 a2 p3 b2 b5 (kI 3) (kR b59) (kI (((p3 - s2) - s1) - s0)) (kR b306) (kI 2) (kI 1)) [(.int (1 : Int32)), (.int (1 : Int32)), (.ref b306)])) rfl rfl (hb hby d1_206)
              have V326 : AV Z h326 b306 .int (3 : Int32) [(.int (0 : Int32)), (.int (1 : Int32)), (.int (0 : Int32))] := AV.set A326 S326 Nl326 M326 W326
              have K326 : Keep h0 h326 [] := K323.wr W326 (Or.inr sz_b306)
              have N326 := Fr.snoc X326 N323 g_b306
              have F328 := (F325.other W326 ne320)
              obtain ⟨cl327, A327, S327, Nl327, M327⟩ := id F328
              have hin327 : ¬ ((2 : Int32) < 0 ∨ cl327.slots.size ≤ ((2 : Int32)).toNatClampNeg) := AV.inb S327 Nl327 ⟨by decide, by decide⟩
              have hat327 : cl327.slots[((2 : Int32)).toNatClampNeg]? = some (.int (1 : Int32)) := AV.at S327 rfl
              obtain ⟨cl329, A329, S329, Nl329, M329⟩ := id V326
              have hin329 : ¬ ((2 : Int32) < 0 ∨ cl329.slots.size ≤ ((2 : Int32)).toNatClampNeg) := AV.inb S329 Nl329 ⟨by decide, by decide⟩
              obtain ⟨T329, h329, X329, e329, W329, st329⟩ := stI X326 hx hZ e326 A329 (j := (2 : Int32)) hin329 (g := (mkF m 206 (Lq1n3 a1 a2 p3 b2 b5 (kI 3) (kR b59) (kI (((p3 - s2) - s1) - s0)) (kR b306) (kI 3) (kI 2)) [(.int (2 : Int32)), (.int (2 : Int32)), (.ref b306)])) rfl rfl (hb hby d1_206)
              have V329 : AV Z h329 b306 .int (3 : Int32) [(.int (0 : Int32)), (.int (1 : Int32)), (.int (2 : Int32))] := AV.set A329 S329 Nl329 M329 W329
              have K329 : Keep h0 h329 [] := K326.wr W329 (Or.inr sz_b306)
              have N329 := Fr.snoc X329 N326 g_b306
              obtain ⟨fs, hr, hrun, hended, hW, hsame⟩ := X329.leave (v := some (.ref b306)) (fun h => by rw [Bd.returns] at h; cases h) hlk
              refine ⟨_, _, pre276 _ ?_, hrun, hended, _, _, rfl, ?_, ⟨_, rfl⟩, hW, hsame.mono (by decide) (by decide)⟩
              · show Steps _ _ _ (T269.setTop (mkF m 144 (Lq1n3 a1 a2 p3 b2 b5 (kI 2) (kR b59) (kI ((p3 - s2) - s1)) (kI 0) kU kU) [(.int (ut0 (((p3 - s2) - s1)).toNatClampNeg))])) _
                refine XS.ifNo X269.here hx rfl (hb hby d1_144) rfl ((if0 _ _).trans (feq hc277).1) ?_
                show Steps _ _ _ (T269.setTop (mkF m 147 (Lq1n3 a1 a2 p3 b2 b5 (kI 2) (kR b59) (kI ((p3 - s2) - s1)) (kI 0) kU kU) [])) _
                refine XS.aload X269.here hx rfl (hb hby d1_147) rfl rfl ?_
                refine XS.iload X269.here hx rfl (hb hby d1_149) rfl ?_
                refine XS.iconst X269.here hx rfl (hb hby d1_151) ?_
                refine st303 _ ?_
                show Steps _ _ _ (T303.setTop (mkF m 153 (Lq1n3 a1 a2 p3 b2 b5 (kI 2) (kR b59) (kI ((p3 - s2) - s1)) (kI 0) kU kU) [])) _
                refine XS.iinc X303.here hx rfl (hb hby d1_153) rfl (l' := (Lq1n3 a1 a2 p3 b2 b5 (kI 3) (kR b59) (kI ((p3 - s2) - s1)) (kI 0) kU kU)) rfl ?_
                refine XS.iload X303.here hx rfl (hb hby d1_156) rfl ?_
                refine XS.aloadN X303.here hx rfl (hb hby d1_158) rfl rfl ?_
                show Steps _ _ _ (T303.setTop (mkF m 159 (Lq1n3 a1 a2 p3 b2 b5 (kI 3) (kR b59) (kI ((p3 - s2) - s1)) (kI 0) kU kU) [(.ref a1), (.int ((p3 - s2) - s1))])) _
                refine XS.iload X303.here hx rfl (hb hby d1_159) rfl ?_
                refine X303.iaload hx (j := (0 : Int32)) (v := (.int s0)) (by rw [e303]; exact A304.1) (State.isArrayOf_alike hZ.alike A304.2.1) A304.2.2 hin304 hat304 (g := (mkF m 161 (Lq1n3 a1 a2 p3 b2 b5 (kI 3) (kR b59) (kI ((p3 - s2) - s1)) (kI 0) kU kU) [(.int (0 : Int32)), (.ref a1), (.int ((p3 - s2) - s1))])) rfl rfl (hb hby d1_161) _ ?_
                refine XS.isub X303.here hx rfl (hb hby d1_162) rfl ?_
                refine XS.istore X303.here hx rfl (hb hby d1_163) rfl (l' := (Lq1n3 a1 a2 p3 b2 b5 (kI 3) (kR b59) (kI (((p3 - s2) - s1) - s0)) (kI 0) kU kU)) rfl ?_
                show Steps _ _ _ (T303.setTop (mkF m 165 (Lq1n3 a1 a2 p3 b2 b5 (kI 3) (kR b59) (kI (((p3 - s2) - s1) - s0)) (kI 0) kU kU) [])) _
                refine XS.iinc X303.here hx rfl (hb hby d1_165) rfl (l' := (Lq1n3 a1 a2 p3 b2 b5 (kI 3) (kR b59) (kI (((p3 - s2) - s1) - s0)) (kI (-1)) kU kU)) rfl ?_
                refine XS.goto X303.here hx rfl (pc0 := 168) (pc' := 131) rfl (hb hby d1_168) (by decide) (by decide) ?_
                refine XS.iload X303.here hx rfl (hb hby d1_131) rfl ?_
                show Steps _ _ _ (T303.setTop (mkF m 133 (Lq1n3 a1 a2 p3 b2 b5 (kI 3) (kR b59) (kI (((p3 - s2) - s1) - s0)) (kI (-1)) kU kU) [(.int (-1 : Int32))])) _
                refine XS.ifYes X303.here hx rfl (pc0 := 133) (pc' := 171) rfl (hb hby d1_133) rfl ((if0 _ _).trans (tlt (by decide : (-1 : Int32) < (0 : Int32))).1) (by decide) (by decide) ?_
                refine XS.iload X303.here hx rfl (hb hby d1_171) rfl ?_
                refine st306 _ ?_
                refine XS.astore X306.here hx rfl (hb hby d1_175) rfl rfl (l' := (Lq1n3 a1 a2 p3 b2 b5 (kI 3) (kR b59) (kI (((p3 - s2) - s1) - s0)) (kR b306) kU kU)) rfl ?_
                show Steps _ _ _ (T306.setTop (mkF m 177 (Lq1n3 a1 a2 p3 b2 b5 (kI 3) (kR b59) (kI (((p3 - s2) - s1) - s0)) (kR b306) kU kU) [])) _
                refine XS.iconst X306.here hx rfl (hb hby d1_177) ?_
                refine XS.istore X306.here hx rfl (hb hby d1_178) rfl (l' := (Lq1n3 a1 a2 p3 b2 b5 (kI 3) (kR b59) (kI (((p3 - s2) - s1) - s0)) (kR b306) (kI 0) kU)) rfl ?_
                refine XS.iconst X306.here hx rfl (hb hby d1_180) ?_
                show Steps _ _ _ (T306.setTop (mkF m 181 (Lq1n3 a1 a2 p3 b2 b5 (kI 3) (kR b59) (kI (((p3 - s2) - s1) - s0)) (kR b306) (kI 0) kU) [(.int (0 : Int32))])) _
                refine XS.istore X306.here hx rfl (hb hby d1_181) rfl (l' := (Lq1n3 a1 a2 p3 b2 b5 (kI 3) (kR b59) (kI (((p3 - s2) - s1) - s0)) (kR b306) (kI 0) (kI 0))) rfl ?_
                refine XS.iload X306.here hx rfl (hb hby d1_183) rfl ?_
                refine XS.iloadN X306.here hx rfl (hb hby d1_185) rfl ?_
                show Steps _ _ _ (T306.setTop (mkF m 186 (Lq1n3 a1 a2 p3 b2 b5 (kI 3) (kR b59) (kI (((p3 - s2) - s1) - s0)) (kR b306) (kI 0) (kI 0)) [(.int (3 : Int32)), (.int (0 : Int32))])) _
                refine XS.icmpNo X306.here hx rfl (hb hby d1_186) rfl (tlt (by decide : (0 : Int32) < (3 : Int32))).2.1 ?_
                refine XS.aload X306.here hx rfl (hb hby d1_189) rfl rfl ?_
                refine XS.iload X306.here hx rfl (hb hby d1_191) rfl ?_
                refine X306.baloadBooleans hx (j := (0 : Int32)) (v := (.int (1 : Int32))) (by rw [e306]; exact A321.1) (State.isArrayOf_alike hZ.alike A321.2.1) A321.2.2 hin321 hat321 (g := (mkF m 193 (Lq1n3 a1 a2 p3 b2 b5 (kI 3) (kR b59) (kI (((p3 - s2) - s1) - s0)) (kR b306) (kI 0) (kI 0)) [(.int (0 : Int32)), (.ref b59)])) rfl rfl (hb hby d1_193) _ ?_
                show Steps _ _ _ (T306.setTop (mkF m 194 (Lq1n3 a1 a2 p3 b2 b5 (kI 3) (kR b59) (kI (((p3 - s2) - s1) - s0)) (kR b306) (kI 0) (kI 0)) [(.int (1 : Int32))])) _
                refine XS.ifNo X306.here hx rfl (hb hby d1_194) rfl ((if0 _ _).trans (feq (by decide : ¬ ((1 : Int32) = (0 : Int32)))).1) ?_
                refine XS.aload X306.here hx rfl (hb hby d1_197) rfl rfl ?_
                refine XS.iload X306.here hx rfl (hb hby d1_199) rfl ?_
                show Steps _ _ _ (T306.setTop (mkF m 201 (Lq1n3 a1 a2 p3 b2 b5 (kI 3) (kR b59) (kI (((p3 - s2) - s1) - s0)) (kR b306) (kI 0) (kI 0)) [(.int (0 : Int32)), (.ref b306)])) _
                refine XS.iinc X306.here hx rfl (hb hby d1_201) rfl (l' := (Lq1n3 a1 a2 p3 b2 b5 (kI 3) (kR b59) (kI (((p3 - s2) - s1) - s0)) (kR b306) (kI 1) (kI 0))) rfl ?_
                refine XS.iload X306.here hx rfl (hb hby d1_204) rfl ?_
                refine st323 _ ?_
                refine XS.iinc X323.here hx rfl (hb hby d1_207) rfl (l' := (Lq1n3 a1 a2 p3 b2 b5 (kI 3) (kR b59) (kI (((p3 - s2) - s1) - s0)) (kR b306) (kI 1) (kI 1))) rfl ?_
                show Steps _ _ _ (T323.setTop (mkF m 210 (Lq1n3 a1 a2 p3 b2 b5 (kI 3) (kR b59) (kI (((p3 - s2) - s1) - s0)) (kR b306) (kI 1) (kI 1)) [])) _
                refine XS.goto X323.here hx rfl (pc0 := 210) (pc' := 183) rfl (hb hby d1_210) (by decide) (by decide) ?_
                refine XS.iload X323.here hx rfl (hb hby d1_183) rfl ?_
                refine XS.iloadN X323.here hx rfl (hb hby d1_185) rfl ?_
                show Steps _ _ _ (T323.setTop (mkF m 186 (Lq1n3 a1 a2 p3 b2 b5 (kI 3) (kR b59) (kI (((p3 - s2) - s1) - s0)) (kR b306) (kI 1) (kI 1)) [(.int (3 : Int32)), (.int (1 : Int32))])) _
                refine XS.icmpNo X323.here hx rfl (hb hby d1_186) rfl (tlt (by decide : (1 : Int32) < (3 : Int32))).2.1 ?_
                refine XS.aload X323.here hx rfl (hb hby d1_189) rfl rfl ?_
                refine XS.iload X323.here hx rfl (hb hby d1_191) rfl ?_
                refine X323.baloadBooleans hx (j := (1 : Int32)) (v := (.int (1 : Int32))) (by rw [e323]; exact A324.1) (State.isArrayOf_alike hZ.alike A324.2.1) A324.2.2 hin324 hat324 (g := (mkF m 193 (Lq1n3 a1 a2 p3 b2 b5 (kI 3) (kR b59) (kI (((p3 - s2) - s1) - s0)) (kR b306) (kI 1) (kI 1)) [(.int (1 : Int32)), (.ref b59)])) rfl rfl (hb hby d1_193) _ ?_
                show Steps _ _ _ (T323.setTop (mkF m 194 (Lq1n3 a1 a2 p3 b2 b5 (kI 3) (kR b59) (kI (((p3 - s2) - s1) - s0)) (kR b306) (kI 1) (kI 1)) [(.int (1 : Int32))])) _
                refine XS.ifNo X323.here hx rfl (hb hby d1_194) rfl ((if0 _ _).trans (feq (by decide : ¬ ((1 : Int32) = (0 : Int32)))).1) ?_
                refine XS.aload X323.here hx rfl (hb hby d1_197) rfl rfl ?_
                refine XS.iload X323.here hx rfl (hb hby d1_199) rfl ?_
                show Steps _ _ _ (T323.setTop (mkF m 201 (Lq1n3 a1 a2 p3 b2 b5 (kI 3) (kR b59) (kI (((p3 - s2) - s1) - s0)) (kR b306) (kI 1) (kI 1)) [(.int (1 : Int32)), (.ref b306)])) _
                refine XS.iinc X323.here hx rfl (hb hby d1_201) rfl (l' := (Lq1n3 a1 a2 p3 b2 b5 (kI 3) (kR b59) (kI (((p3 - s2) - s1) - s0)) (kR b306) (kI 2) (kI 1))) rfl ?_
                refine XS.iload X323.here hx rfl (hb hby d1_204) rfl ?_
                refine st326 _ ?_
                refine XS.iinc X326.here hx rfl (hb hby d1_207) rfl (l' := (Lq1n3 a1 a2 p3 b2 b5 (kI 3) (kR b59) (kI (((p3 - s2) - s1) - s0)) (kR b306) (kI 2) (kI 2))) rfl ?_
                show Steps _ _ _ (T326.setTop (mkF m 210 (Lq1n3 a1 a2 p3 b2 b5 (kI 3) (kR b59) (kI (((p3 - s2) - s1) - s0)) (kR b306) (kI 2) (kI 2)) [])) _
                refine XS.goto X326.here hx rfl (pc0 := 210) (pc' := 183) rfl (hb hby d1_210) (by decide) (by decide) ?_
                refine XS.iload X326.here hx rfl (hb hby d1_183) rfl ?_
                refine XS.iloadN X326.here hx rfl (hb hby d1_185) rfl ?_
                show Steps _ _ _ (T326.setTop (mkF m 186 (Lq1n3 a1 a2 p3 b2 b5 (kI 3) (kR b59) (kI (((p3 - s2) - s1) - s0)) (kR b306) (kI 2) (kI 2)) [(.int (3 : Int32)), (.int (2 : Int32))])) _
                refine XS.icmpNo X326.here hx rfl (hb hby d1_186) rfl (tlt (by decide : (2 : Int32) < (3 : Int32))).2.1 ?_
                refine XS.aload X326.here hx rfl (hb hby d1_189) rfl rfl ?_
                refine XS.iload X326.here hx rfl (hb hby d1_191) rfl ?_
                refine X326.baloadBooleans hx (j := (2 : Int32)) (v := (.int (1 : Int32))) (by rw [e326]; exact A327.1) (State.isArrayOf_alike hZ.alike A327.2.1) A327.2.2 hin327 hat327 (g := (mkF m 193 (Lq1n3 a1 a2 p3 b2 b5 (kI 3) (kR b59) (kI (((p3 - s2) - s1) - s0)) (kR b306) (kI 2) (kI 2)) [(.int (2 : Int32)), (.ref b59)])) rfl rfl (hb hby d1_193) _ ?_
                show Steps _ _ _ (T326.setTop (mkF m 194 (Lq1n3 a1 a2 p3 b2 b5 (kI 3) (kR b59) (kI (((p3 - s2) - s1) - s0)) (kR b306) (kI 2) (kI 2)) [(.int (1 : Int32))])) _
                refine XS.ifNo X326.here hx rfl (hb hby d1_194) rfl ((if0 _ _).trans (feq (by decide : ¬ ((1 : Int32) = (0 : Int32)))).1) ?_
                refine XS.aload X326.here hx rfl (hb hby d1_197) rfl rfl ?_
                refine XS.iload X326.here hx rfl (hb hby d1_199) rfl ?_
                show Steps _ _ _ (T326.setTop (mkF m 201 (Lq1n3 a1 a2 p3 b2 b5 (kI 3) (kR b59) (kI (((p3 - s2) - s1) - s0)) (kR b306) (kI 2) (kI 2)) [(.int (2 : Int32)), (.ref b306)])) _
                refine XS.iinc X326.here hx rfl (hb hby d1_201) rfl (l' := (Lq1n3 a1 a2 p3 b2 b5 (kI 3) (kR b59) (kI (((p3 - s2) - s1) - s0)) (kR b306) (kI 3) (kI 2))) rfl ?_
                refine XS.iload X326.here hx rfl (hb hby d1_204) rfl ?_
                refine st329 _ ?_
                refine XS.iinc X329.here hx rfl (hb hby d1_207) rfl (l' := (Lq1n3 a1 a2 p3 b2 b5 (kI 3) (kR b59) (kI (((p3 - s2) - s1) - s0)) (kR b306) (kI 3) (kI 3))) rfl ?_
                show Steps _ _ _ (T329.setTop (mkF m 210 (Lq1n3 a1 a2 p3 b2 b5 (kI 3) (kR b59) (kI (((p3 - s2) - s1) - s0)) (kR b306) (kI 3) (kI 3)) [])) _
                refine XS.goto X329.here hx rfl (pc0 := 210) (pc' := 183) rfl (hb hby d1_210) (by decide) (by decide) ?_
                refine XS.iload X329.here hx rfl (hb hby d1_183) rfl ?_
                refine XS.iloadN X329.here hx rfl (hb hby d1_185) rfl ?_
                show Steps _ _ _ (T329.setTop (mkF m 186 (Lq1n3 a1 a2 p3 b2 b5 (kI 3) (kR b59) (kI (((p3 - s2) - s1) - s0)) (kR b306) (kI 3) (kI 3)) [(.int (3 : Int32)), (.int (3 : Int32))])) _
                refine XS.icmpYes X329.here hx rfl (pc0 := 186) (pc' := 213) rfl (hb hby d1_186) rfl (flt (by decide : ¬ ((3 : Int32) < (3 : Int32)))).2.1 (by decide) (by decide) ?_
                refine XS.aload X329.here hx rfl (hb hby d1_213) rfl rfl ?_
                show Steps _ _ _ (T329.setTop (mkF m 215 (Lq1n3 a1 a2 p3 b2 b5 (kI 3) (kR b59) (kI (((p3 - s2) - s1) - s0)) (kR b306) (kI 3) (kI 3)) [(.ref b306)])) _
                jvm_step X329.here [X329.here.top, hx, (hb hby d1_215), X329.method', Bd.returns, Value.isRef, FieldType.isReference]
                first | (intro acts; rw [hr _ acts rfl rfl rfl]) | rw [hr _ _ rfl rfl rfl]
                exact Steps.refl _
              · show Q1n3 Z a1 a2 p3 s0 s1 s2 v0 v1 v2 h0 n0 _ T329.heap _
                rw [e329]
                exact ⟨b306, (3 : Int32), [.int (0 : Int32), .int (1 : Int32), .int (2 : Int32)], rfl, N329, K329, g_b306, sz_b306, V329, (Or.inr (Or.inr (Or.inr (Or.inr (Or.inr (Or.inr (Or.inr ⟨rfl, rfl, own_fin hcap hs0 hs1 hs2 hv0 hv1 hv2 hI0 hI1 hI2 hT201 hT267 hT301⟩)))))))⟩
      · intro jn56
        have F332 := ((F48.ext E41).other W53 ne9)
        obtain ⟨cl331, A331, S331, Nl331, M331⟩ := id F332
        have hin331 : ¬ ((2 : Int32) < 0 ∨ cl331.slots.size ≤ ((2 : Int32)).toNatClampNeg) := AV.inb S331 Nl331 ⟨by decide, by decide⟩
        have hat331 : cl331.slots[((2 : Int32)).toNatClampNeg]? = some (.long v2) := AV.at S331 rfl
        have pre333 : ∀ t, Steps p.tables e below (T53.setTop (mkF m 41 (Lq1n3 a1 a2 p3 b2 b5 (kI 2) uc1 ux1 uy1 kU kU) [(.int (lcmpW v2 (0 : Int64)))])) t → Steps p.tables e below (s₁.setTop (entryFrame m #[(.ref a1), (.ref a2), (.int p3)] 12)) t := fun t k => pre57 t (by
          show Steps _ _ _ (T53.setTop (mkF m 35 (Lq1n3 a1 a2 p3 b2 b5 (kI 2) uc1 ux1 uy1 kU kU) [])) _
          refine XS.aloadN X53.here hx rfl (hb hby d1_35) rfl rfl ?_
          show Steps _ _ _ (T53.setTop (mkF m 36 (Lq1n3 a1 a2 p3 b2 b5 (kI 2) uc1 ux1 uy1 kU kU) [(.ref a2)])) _
          refine XS.iload X53.here hx rfl (hb hby d1_36) rfl ?_
          refine X53.laload hx (j := (2 : Int32)) (v := (.long v2)) (by rw [e53]; exact A331.1) (State.isArrayOf_alike hZ.alike A331.2.1) A331.2.2 hin331 hat331 (g := (mkF m 38 (Lq1n3 a1 a2 p3 b2 b5 (kI 2) uc1 ux1 uy1 kU kU) [(.int (2 : Int32)), (.ref a2)])) rfl rfl (hb hby d1_38) _ ?_
          refine XS.lconst X53.here hx rfl (hb hby d1_39) ?_
          refine XS.lcmp X53.here hx rfl (hb hby d1_40) rfl ?_
          exact k)
        by_cases hc334 : (0 : Int32) < (lcmpW v2 (0 : Int64))
        · have pre335 : ∀ t, Steps p.tables e below (T53.setTop (mkF m 50 (Lq1n3 a1 a2 p3 b2 b5 (kI 2) (kI p3) ux1 uy1 kU kU) [])) t → Steps p.tables e below (s₁.setTop (entryFrame m #[(.ref a1), (.ref a2), (.int p3)] 12)) t := fun t k => pre333 t (by
            show Steps _ _ _ (T53.setTop (mkF m 41 (Lq1n3 a1 a2 p3 b2 b5 (kI 2) uc1 ux1 uy1 kU kU) [(.int (lcmpW v2 (0 : Int64)))])) _
            refine XS.ifYes X53.here hx rfl (pc0 := 41) (pc' := 47) rfl (hb hby d1_41) rfl ((if0 _ _).trans (tlt hc334).2.2.1) (by decide) (by decide) ?_
            refine XS.iloadN X53.here hx rfl (hb hby d1_47) rfl ?_
            refine XS.istore X53.here hx rfl (hb hby d1_48) rfl (l' := (Lq1n3 a1 a2 p3 b2 b5 (kI 2) (kI p3) ux1 uy1 kU kU)) (by rcases hsl_uc1 with rfl | ⟨_, rfl⟩ | ⟨_, rfl⟩ <;> rfl) ?_
            exact k)
          have F337 := ((Lf38_0.ext E41).other W53 ne10)
          have F338 := (V_b41.other W53 (Ne.symm ne51))
          refine own_loop (α := State × (List Loc) × Heap × Int32 × Slot × Slot × (Nat → Int64) × (Nat → Int32)) (fun a => match a with | (T336, locs336, h336, wc2, wx2, wy2, wb2, wt2) => wc2.toInt ≤ p3.toInt ∧ own_lp p3 ub2 v2 s2 wc2 wb2 wt2 ∧ own_sl2 wx2 wy2 ∧ Stand p l e ({ frames := 0, cells := 7, slots := 73, locals := 0 } : Room) s m #[(.ref a1), (.ref a2), (.int p3)] below meth c T336 locs336 5 67 ∧ T336.heap = h336 ∧ Fr n0 locs336 ∧ Keep h53 h336 [b2, b41] ∧ AJ Z h336 b2 .long (p3 + (1 : Int32)) wb2 ∧ AI Z h336 b41 .boolean (p3 + (1 : Int32)) wt2 ∧ (∀ t, Steps p.tables e below (T336.setTop (mkF m 50 (Lq1n3 a1 a2 p3 b2 b5 (kI 2) (kI wc2) wx2 wy2 kU kU) [])) t → Steps p.tables e below (s₁.setTop (entryFrame m #[(.ref a1), (.ref a2), (.int p3)] 12)) t)) (fun a => match a with | (T336, locs336, h336, wc2, wx2, wy2, wb2, wt2) => (wc2.toInt + 1).toNat) ?_ (T53, _, _, p3, ux1, uy1, ub2, (fun _ => 0)) ⟨(Int.le_refl _), (own_lp0 _ _ _ _ hcap), hsl_ux1, X53, e53, N53, Keep.refl _ _, F337, F338, pre335⟩
          rintro ⟨T336, locs336, h336, wc2, wx2, wy2, wb2, wt2⟩ ⟨hc1_2, hL2, hsl_wx2, X336, e336, N336, Kl336, Lf336_0, Lf336_1, pre336⟩ ih336
          have K339 : Keep h0 h336 [] := K53.trans Kl336 (allS (Or.inr sz_b2) (allS (Or.inr sz_b41) all0))
          have F341 := (((F46.ext E41).other W53 ne7).keep Kl336 (ninS ne3 (ninS ne47 nin0)))
          obtain ⟨cl340, A340, S340, Nl340, M340⟩ := id F341
          have hin340 : ¬ ((2 : Int32) < 0 ∨ cl340.slots.size ≤ ((2 : Int32)).toNatClampNeg) := AV.inb S340 Nl340 ⟨by decide, by decide⟩
          have hat340 : cl340.slots[((2 : Int32)).toNatClampNeg]? = some (.int s2) := AV.at S340 rfl
          have pre342 : ∀ t, Steps p.tables e below (T336.setTop (mkF m 56 (Lq1n3 a1 a2 p3 b2 b5 (kI 2) (kI wc2) wx2 wy2 kU kU) [(.int s2), (.int wc2)])) t → Steps p.tables e below (s₁.setTop (entryFrame m #[(.ref a1), (.ref a2), (.int p3)] 12)) t := fun t k => pre336 t (by
            show Steps _ _ _ (T336.setTop (mkF m 50 (Lq1n3 a1 a2 p3 b2 b5 (kI 2) (kI wc2) wx2 wy2 kU kU) [])) _
            refine XS.iload X336.here hx rfl (hb hby d1_50) rfl ?_
            refine XS.aloadN X336.here hx rfl (hb hby d1_52) rfl rfl ?_
            refine XS.iload X336.here hx rfl (hb hby d1_53) rfl ?_
            refine X336.iaload hx (j := (2 : Int32)) (v := (.int s2)) (by rw [e336]; exact A340.1) (State.isArrayOf_alike hZ.alike A340.2.1) A340.2.2 hin340 hat340 (g := (mkF m 55 (Lq1n3 a1 a2 p3 b2 b5 (kI 2) (kI wc2) wx2 wy2 kU kU) [(.int (2 : Int32)), (.ref a1), (.int wc2)])) rfl rfl (hb hby d1_55) _ ?_
            exact k)
          by_cases hc343 : wc2 < s2
          · have pre344 : ∀ t, Steps p.tables e below (T336.setTop (mkF m 109 (Lq1n3 a1 a2 p3 b2 b5 (kI 2) (kI wc2) wx2 wy2 kU kU) [])) t → Steps p.tables e below (s₁.setTop (entryFrame m #[(.ref a1), (.ref a2), (.int p3)] 12)) t := fun t k => pre342 t (by
              show Steps _ _ _ (T336.setTop (mkF m 56 (Lq1n3 a1 a2 p3 b2 b5 (kI 2) (kI wc2) wx2 wy2 kU kU) [(.int s2), (.int wc2)])) _
              refine XS.icmpYes X336.here hx rfl (pc0 := 56) (pc' := 109) rfl (hb hby d1_56) rfl (tlt hc343).1 (by decide) (by decide) ?_
              exact k)
            exact jn56 (T336, _, _, .val (.int wc2), wx2, wy2, wb2, wt2) ⟨(own_lpE hs2 hL2 hc343), (Or.inr (Or.inl ⟨_, rfl⟩)), hsl_wx2, X336, e336, N336, (((Keep.refl _ _).trans Kl336 (allS (Or.inl (List.mem_of_getElem? (i := 0) rfl)) (allS (Or.inl (List.mem_of_getElem? (i := 1) rfl)) all0)))), Lf336_0, Lf336_1, fun t k => pre344 t k⟩
          · obtain ⟨cl345, A345, S345, Nl345, M345⟩ := id F341
            have hin345 : ¬ ((2 : Int32) < 0 ∨ cl345.slots.size ≤ ((2 : Int32)).toNatClampNeg) := AV.inb S345 Nl345 ⟨by decide, by decide⟩
            have hat345 : cl345.slots[((2 : Int32)).toNatClampNeg]? = some (.int s2) := AV.at S345 rfl
            obtain ⟨cl346, A346, S346, M346, G346⟩ := id Lf336_0
            have hin346 : ¬ ((wc2 - s2) < 0 ∨ cl346.slots.size ≤ ((wc2 - s2)).toNatClampNeg) := inb_of S346 (own_ixr hcap (own_rgs hcap hs2 hc1_2 hc343))
            have hat346 : cl346.slots[((wc2 - s2)).toNatClampNeg]? = some (.long (wb2 ((wc2 - s2)).toNatClampNeg)) := AJ.at S346 G346 hin346
            have F348 := (F332.keep Kl336 (ninS ne4 (ninS ne49 nin0)))
            obtain ⟨cl347, A347, S347, Nl347, M347⟩ := id F348
            have hin347 : ¬ ((2 : Int32) < 0 ∨ cl347.slots.size ≤ ((2 : Int32)).toNatClampNeg) := AV.inb S347 Nl347 ⟨by decide, by decide⟩
            have hat347 : cl347.slots[((2 : Int32)).toNatClampNeg]? = some (.long v2) := AV.at S347 rfl
            obtain ⟨cl349, A349, S349, M349, G349⟩ := id Lf336_0
            have hin349 : ¬ (wc2 < 0 ∨ cl349.slots.size ≤ (wc2).toNatClampNeg) := inb_of S349 (own_ixr hcap (own_rgc hs2 hc1_2 hc343))
            have hat349 : cl349.slots[(wc2).toNatClampNeg]? = some (.long (wb2 (wc2).toNatClampNeg)) := AJ.at S349 G349 hin349
            have pre350 : ∀ t, Steps p.tables e below (T336.setTop (mkF m 84 (Lq1n3 a1 a2 p3 b2 b5 (kI 2) (kI wc2) (kJ ((wb2 ((wc2 - s2)).toNatClampNeg) + v2)) kD kU kU) [(.int (lcmpW ((wb2 ((wc2 - s2)).toNatClampNeg) + v2) (wb2 (wc2).toNatClampNeg)))])) t → Steps p.tables e below (s₁.setTop (entryFrame m #[(.ref a1), (.ref a2), (.int p3)] 12)) t := fun t k => pre342 t (by
              show Steps _ _ _ (T336.setTop (mkF m 56 (Lq1n3 a1 a2 p3 b2 b5 (kI 2) (kI wc2) wx2 wy2 kU kU) [(.int s2), (.int wc2)])) _
              refine XS.icmpNo X336.here hx rfl (hb hby d1_56) rfl (flt hc343).1 ?_
              refine XS.aload X336.here hx rfl (hb hby d1_59) rfl rfl ?_
              show Steps _ _ _ (T336.setTop (mkF m 61 (Lq1n3 a1 a2 p3 b2 b5 (kI 2) (kI wc2) wx2 wy2 kU kU) [(.ref b2)])) _
              refine XS.iload X336.here hx rfl (hb hby d1_61) rfl ?_
              refine XS.aloadN X336.here hx rfl (hb hby d1_63) rfl rfl ?_
              refine XS.iload X336.here hx rfl (hb hby d1_64) rfl ?_
              refine X336.iaload hx (j := (2 : Int32)) (v := (.int s2)) (by rw [e336]; exact A345.1) (State.isArrayOf_alike hZ.alike A345.2.1) A345.2.2 hin345 hat345 (g := (mkF m 66 (Lq1n3 a1 a2 p3 b2 b5 (kI 2) (kI wc2) wx2 wy2 kU kU) [(.int (2 : Int32)), (.ref a1), (.int wc2), (.ref b2)])) rfl rfl (hb hby d1_66) _ ?_
              show Steps _ _ _ (T336.setTop (mkF m 67 (Lq1n3 a1 a2 p3 b2 b5 (kI 2) (kI wc2) wx2 wy2 kU kU) [(.int s2), (.int wc2), (.ref b2)])) _
              refine XS.isub X336.here hx rfl (hb hby d1_67) rfl ?_
              refine X336.laload hx (j := (wc2 - s2)) (v := (.long (wb2 ((wc2 - s2)).toNatClampNeg))) (by rw [e336]; exact A346.1) (State.isArrayOf_alike hZ.alike A346.2.1) A346.2.2 hin346 hat346 (g := (mkF m 68 (Lq1n3 a1 a2 p3 b2 b5 (kI 2) (kI wc2) wx2 wy2 kU kU) [(.int (wc2 - s2)), (.ref b2)])) rfl rfl (hb hby d1_68) _ ?_
              refine XS.aloadN X336.here hx rfl (hb hby d1_69) rfl rfl ?_
              refine XS.iload X336.here hx rfl (hb hby d1_70) rfl ?_
              refine X336.laload hx (j := (2 : Int32)) (v := (.long v2)) (by rw [e336]; exact A347.1) (State.isArrayOf_alike hZ.alike A347.2.1) A347.2.2 hin347 hat347 (g := (mkF m 72 (Lq1n3 a1 a2 p3 b2 b5 (kI 2) (kI wc2) wx2 wy2 kU kU) [(.int (2 : Int32)), (.ref a2), (.long (wb2 ((wc2 - s2)).toNatClampNeg))])) rfl rfl (hb hby d1_72) _ ?_
              show Steps _ _ _ (T336.setTop (mkF m 73 (Lq1n3 a1 a2 p3 b2 b5 (kI 2) (kI wc2) wx2 wy2 kU kU) [(.long v2), (.long (wb2 ((wc2 - s2)).toNatClampNeg))])) _
              refine XS.ladd X336.here hx rfl (hb hby d1_73) rfl ?_
              refine XS.lstore X336.here hx rfl (hb hby d1_74) rfl (l' := (Lq1n3 a1 a2 p3 b2 b5 (kI 2) (kI wc2) (kJ ((wb2 ((wc2 - s2)).toNatClampNeg) + v2)) kD kU kU)) (by rcases hsl_wx2 with ⟨rfl, rfl⟩ | ⟨_, rfl, rfl⟩ <;> rfl) ?_
              refine XS.lload X336.here hx rfl (hb hby d1_76) rfl ?_
              show Steps _ _ _ (T336.setTop (mkF m 78 (Lq1n3 a1 a2 p3 b2 b5 (kI 2) (kI wc2) (kJ ((wb2 ((wc2 - s2)).toNatClampNeg) + v2)) kD kU kU) [(.long ((wb2 ((wc2 - s2)).toNatClampNeg) + v2))])) _
              refine XS.aload X336.here hx rfl (hb hby d1_78) rfl rfl ?_
              refine XS.iload X336.here hx rfl (hb hby d1_80) rfl ?_
              refine X336.laload hx (j := wc2) (v := (.long (wb2 (wc2).toNatClampNeg))) (by rw [e336]; exact A349.1) (State.isArrayOf_alike hZ.alike A349.2.1) A349.2.2 hin349 hat349 (g := (mkF m 82 (Lq1n3 a1 a2 p3 b2 b5 (kI 2) (kI wc2) (kJ ((wb2 ((wc2 - s2)).toNatClampNeg) + v2)) kD kU kU) [(.int wc2), (.ref b2), (.long ((wb2 ((wc2 - s2)).toNatClampNeg) + v2))])) rfl rfl (hb hby d1_82) _ ?_
              refine XS.lcmp X336.here hx rfl (hb hby d1_83) rfl ?_
              exact k)
            by_cases hc351 : (0 : Int32) < (lcmpW ((wb2 ((wc2 - s2)).toNatClampNeg) + v2) (wb2 (wc2).toNatClampNeg))
            · obtain ⟨cl352, A352, S352, M352, G352⟩ := id Lf336_0
              have hin352 : ¬ (wc2 < 0 ∨ cl352.slots.size ≤ (wc2).toNatClampNeg) := inb_of S352 (own_ixr hcap (own_rgc hs2 hc1_2 hc343))
              obtain ⟨T352, h352, X352, e352, W352, st352⟩ := stJ X336 hx hZ e336 A352 (j := wc2) hin352 (g := (mkF m 93 (Lq1n3 a1 a2 p3 b2 b5 (kI 2) (kI wc2) (kJ ((wb2 ((wc2 - s2)).toNatClampNeg) + v2)) kD kU kU) [(.long ((wb2 ((wc2 - s2)).toNatClampNeg) + v2)), (.int wc2), (.ref b2)])) rfl rfl (hb hby d1_93)
              have V352 : AJ Z h352 b2 .long (p3 + (1 : Int32)) (fun i => if i = (wc2).toNatClampNeg then ((wb2 ((wc2 - s2)).toNatClampNeg) + v2) else wb2 i) := AJ.set A352 S352 M352 G352 W352
              have K352 : Keep h0 h352 [] := K339.wr W352 (Or.inr sz_b2)
              have N352 := Fr.snoc X352 N336 g_b2
              have F354 := ((V53.keep Kl336 (ninS (Ne.symm ne10) (ninS ne51 nin0))).other W352 (Ne.symm ne10))
              obtain ⟨cl353, A353, S353, Nl353, M353⟩ := id F354
              have hin353 : ¬ ((2 : Int32) < 0 ∨ cl353.slots.size ≤ ((2 : Int32)).toNatClampNeg) := AV.inb S353 Nl353 ⟨by decide, by decide⟩
              have hat353 : cl353.slots[((2 : Int32)).toNatClampNeg]? = some (.ref b41) := AV.at S353 rfl
              have F356 := (Lf336_1.other W352 (Ne.symm ne52))
              obtain ⟨cl355, A355, S355, M355, G355⟩ := id F356
              have hin355 : ¬ (wc2 < 0 ∨ cl355.slots.size ≤ (wc2).toNatClampNeg) := inb_of S355 (own_ixr hcap (own_rgc hs2 hc1_2 hc343))
              obtain ⟨T355, h355, X355, e355, W355, st355⟩ := stZ X352 hx hZ e352 A355 (j := wc2) hin355 (g := (mkF m 102 (Lq1n3 a1 a2 p3 b2 b5 (kI 2) (kI wc2) (kJ ((wb2 ((wc2 - s2)).toNatClampNeg) + v2)) kD kU kU) [(.int (1 : Int32)), (.int wc2), (.ref b41)])) rfl rfl (hb hby d1_102)
              have V355 : AI Z h355 b41 .boolean (p3 + (1 : Int32)) (fun i => if i = (wc2).toNatClampNeg then (1 : Int32) else wt2 i) := AI.set A355 S355 M355 G355 W355
              have K355 : Keep h0 h355 [] := K352.wr W355 (Or.inr sz_b41)
              have N355 := Fr.snoc X355 N352 g_b41
              have pre357 : ∀ t, Steps p.tables e below (T355.setTop (mkF m 50 (Lq1n3 a1 a2 p3 b2 b5 (kI 2) (kI (wc2 + (-1 : Int32))) (kJ ((wb2 ((wc2 - s2)).toNatClampNeg) + v2)) kD kU kU) [])) t → Steps p.tables e below (s₁.setTop (entryFrame m #[(.ref a1), (.ref a2), (.int p3)] 12)) t := fun t k => pre350 t (by
                show Steps _ _ _ (T336.setTop (mkF m 84 (Lq1n3 a1 a2 p3 b2 b5 (kI 2) (kI wc2) (kJ ((wb2 ((wc2 - s2)).toNatClampNeg) + v2)) kD kU kU) [(.int (lcmpW ((wb2 ((wc2 - s2)).toNatClampNeg) + v2) (wb2 (wc2).toNatClampNeg)))])) _
                refine XS.ifNo X336.here hx rfl (hb hby d1_84) rfl ((if0 _ _).trans (tlt hc351).2.2.2) ?_
                refine XS.aload X336.here hx rfl (hb hby d1_87) rfl rfl ?_
                refine XS.iload X336.here hx rfl (hb hby d1_89) rfl ?_
                show Steps _ _ _ (T336.setTop (mkF m 91 (Lq1n3 a1 a2 p3 b2 b5 (kI 2) (kI wc2) (kJ ((wb2 ((wc2 - s2)).toNatClampNeg) + v2)) kD kU kU) [(.int wc2), (.ref b2)])) _
                refine XS.lload X336.here hx rfl (hb hby d1_91) rfl ?_
                refine st352 _ ?_
                refine XS.aload X352.here hx rfl (hb hby d1_94) rfl rfl ?_
                refine XS.iload X352.here hx rfl (hb hby d1_96) rfl ?_
                refine X352.aaload hx (j := (2 : Int32)) (v := (.ref b41)) (by rw [e352]; exact A353.1) (State.isArrayOf_alike hZ.alike A353.2.1) rfl A353.2.2 hin353 hat353 (g := (mkF m 98 (Lq1n3 a1 a2 p3 b2 b5 (kI 2) (kI wc2) (kJ ((wb2 ((wc2 - s2)).toNatClampNeg) + v2)) kD kU kU) [(.int (2 : Int32)), (.ref b5)])) rfl rfl (hb hby d1_98) _ ?_
                show Steps _ _ _ (T352.setTop (mkF m 99 (Lq1n3 a1 a2 p3 b2 b5 (kI 2) (kI wc2) (kJ ((wb2 ((wc2 - s2)).toNatClampNeg) + v2)) kD kU kU) [(.ref b41)])) _
                refine XS.iload X352.here hx rfl (hb hby d1_99) rfl ?_
                refine XS.iconst X352.here hx rfl (hb hby d1_101) ?_
                refine st355 _ ?_
                refine XS.iinc X355.here hx rfl (hb hby d1_103) rfl (l' := (Lq1n3 a1 a2 p3 b2 b5 (kI 2) (kI (wc2 + (-1 : Int32))) (kJ ((wb2 ((wc2 - s2)).toNatClampNeg) + v2)) kD kU kU)) rfl ?_
                show Steps _ _ _ (T355.setTop (mkF m 106 (Lq1n3 a1 a2 p3 b2 b5 (kI 2) (kI (wc2 + (-1 : Int32))) (kJ ((wb2 ((wc2 - s2)).toNatClampNeg) + v2)) kD kU kU) [])) _
                refine XS.goto X355.here hx rfl (pc0 := 106) (pc' := 50) rfl (hb hby d1_106) (by decide) (by decide) ?_
                exact k)
              have F358 := (V352.other W355 ne52)
              exact ih336 (T355, _, _, (wc2 + (-1 : Int32)), .val (.long ((wb2 ((wc2 - s2)).toNatClampNeg) + v2)), .second, (fun i => if i = (wc2).toNatClampNeg then ((wb2 ((wc2 - s2)).toNatClampNeg) + v2) else wb2 i), (fun i => if i = (wc2).toNatClampNeg then (1 : Int32) else wt2 i)) ⟨(own_mle hcap hs2 hc1_2 hc343), (own_stY hcap hs2 hc1_2 hc343 (own_gt.mp hc334) hL2 (own_gt.mp hc351)), (Or.inr ⟨_, rfl, rfl⟩), X355, e355, N355, (((Kl336.wr W352 (Or.inl (List.mem_of_getElem? (i := 0) rfl))).wr W355 (Or.inl (List.mem_of_getElem? (i := 1) rfl)))), F358, V355, fun t k => pre357 t k⟩ (own_mlt hcap hs2 hc1_2 hc343)
            · have pre359 : ∀ t, Steps p.tables e below (T336.setTop (mkF m 50 (Lq1n3 a1 a2 p3 b2 b5 (kI 2) (kI (wc2 + (-1 : Int32))) (kJ ((wb2 ((wc2 - s2)).toNatClampNeg) + v2)) kD kU kU) [])) t → Steps p.tables e below (s₁.setTop (entryFrame m #[(.ref a1), (.ref a2), (.int p3)] 12)) t := fun t k => pre350 t (by
                show Steps _ _ _ (T336.setTop (mkF m 84 (Lq1n3 a1 a2 p3 b2 b5 (kI 2) (kI wc2) (kJ ((wb2 ((wc2 - s2)).toNatClampNeg) + v2)) kD kU kU) [(.int (lcmpW ((wb2 ((wc2 - s2)).toNatClampNeg) + v2) (wb2 (wc2).toNatClampNeg)))])) _
                refine XS.ifYes X336.here hx rfl (pc0 := 84) (pc' := 103) rfl (hb hby d1_84) rfl ((if0 _ _).trans (flt hc351).2.2.2) (by decide) (by decide) ?_
                refine XS.iinc X336.here hx rfl (hb hby d1_103) rfl (l' := (Lq1n3 a1 a2 p3 b2 b5 (kI 2) (kI (wc2 + (-1 : Int32))) (kJ ((wb2 ((wc2 - s2)).toNatClampNeg) + v2)) kD kU kU)) rfl ?_
                show Steps _ _ _ (T336.setTop (mkF m 106 (Lq1n3 a1 a2 p3 b2 b5 (kI 2) (kI (wc2 + (-1 : Int32))) (kJ ((wb2 ((wc2 - s2)).toNatClampNeg) + v2)) kD kU kU) [])) _
                refine XS.goto X336.here hx rfl (pc0 := 106) (pc' := 50) rfl (hb hby d1_106) (by decide) (by decide) ?_
                exact k)
              exact ih336 (T336, _, _, (wc2 + (-1 : Int32)), .val (.long ((wb2 ((wc2 - s2)).toNatClampNeg) + v2)), .second, wb2, wt2) ⟨(own_mle hcap hs2 hc1_2 hc343), (own_stN hcap hs2 hc1_2 hc343 hL2 (fun q => hc351 (own_gt.mpr q))), (Or.inr ⟨_, rfl, rfl⟩), X336, e336, N336, (Kl336), Lf336_0, Lf336_1, fun t k => pre359 t k⟩ (own_mlt hcap hs2 hc1_2 hc343)
        · have pre360 : ∀ t, Steps p.tables e below (T53.setTop (mkF m 109 (Lq1n3 a1 a2 p3 b2 b5 (kI 2) uc1 ux1 uy1 kU kU) [])) t → Steps p.tables e below (s₁.setTop (entryFrame m #[(.ref a1), (.ref a2), (.int p3)] 12)) t := fun t k => pre333 t (by
            show Steps _ _ _ (T53.setTop (mkF m 41 (Lq1n3 a1 a2 p3 b2 b5 (kI 2) uc1 ux1 uy1 kU kU) [(.int (lcmpW v2 (0 : Int64)))])) _
            refine XS.ifNo X53.here hx rfl (hb hby d1_41) rfl ((if0 _ _).trans (flt hc334).2.2.1) ?_
            refine XS.goto X53.here hx rfl (pc0 := 44) (pc' := 109) rfl (hb hby d1_44) (by decide) (by decide) ?_
            exact k)
          have F361 := ((Lf38_0.ext E41).other W53 ne10)
          have F362 := (V_b41.other W53 (Ne.symm ne51))
          exact jn56 (T53, _, _, uc1, ux1, uy1, ub2, (fun _ => 0)) ⟨(own_itn (fun q => hc334 (own_gt.mpr q))), hsl_uc1, hsl_ux1, X53, e53, N53, ((Keep.refl _ _)), F361, F362, fun t k => pre360 t k⟩
    · intro jn38
      have F364 := ((F30.ext E25).other W35 ne9)
      obtain ⟨cl363, A363, S363, Nl363, M363⟩ := id F364
      have hin363 : ¬ ((1 : Int32) < 0 ∨ cl363.slots.size ≤ ((1 : Int32)).toNatClampNeg) := AV.inb S363 Nl363 ⟨by decide, by decide⟩
      have hat363 : cl363.slots[((1 : Int32)).toNatClampNeg]? = some (.long v1) := AV.at S363 rfl
      have pre365 : ∀ t, Steps p.tables e below (T35.setTop (mkF m 41 (Lq1n3 a1 a2 p3 b2 b5 (kI 1) uc0 ux0 uy0 kU kU) [(.int (lcmpW v1 (0 : Int64)))])) t → Steps p.tables e below (s₁.setTop (entryFrame m #[(.ref a1), (.ref a2), (.int p3)] 12)) t := fun t k => pre39 t (by
        show Steps _ _ _ (T35.setTop (mkF m 35 (Lq1n3 a1 a2 p3 b2 b5 (kI 1) uc0 ux0 uy0 kU kU) [])) _
        refine XS.aloadN X35.here hx rfl (hb hby d1_35) rfl rfl ?_
        refine XS.iload X35.here hx rfl (hb hby d1_36) rfl ?_
        refine X35.laload hx (j := (1 : Int32)) (v := (.long v1)) (by rw [e35]; exact A363.1) (State.isArrayOf_alike hZ.alike A363.2.1) A363.2.2 hin363 hat363 (g := (mkF m 38 (Lq1n3 a1 a2 p3 b2 b5 (kI 1) uc0 ux0 uy0 kU kU) [(.int (1 : Int32)), (.ref a2)])) rfl rfl (hb hby d1_38) _ ?_
        refine XS.lconst X35.here hx rfl (hb hby d1_39) ?_
        show Steps _ _ _ (T35.setTop (mkF m 40 (Lq1n3 a1 a2 p3 b2 b5 (kI 1) uc0 ux0 uy0 kU kU) [(.long (0 : Int64)), (.long v1)])) _
        refine XS.lcmp X35.here hx rfl (hb hby d1_40) rfl ?_
        exact k)
      by_cases hc366 : (0 : Int32) < (lcmpW v1 (0 : Int64))
      · have pre367 : ∀ t, Steps p.tables e below (T35.setTop (mkF m 50 (Lq1n3 a1 a2 p3 b2 b5 (kI 1) (kI p3) ux0 uy0 kU kU) [])) t → Steps p.tables e below (s₁.setTop (entryFrame m #[(.ref a1), (.ref a2), (.int p3)] 12)) t := fun t k => pre365 t (by
          show Steps _ _ _ (T35.setTop (mkF m 41 (Lq1n3 a1 a2 p3 b2 b5 (kI 1) uc0 ux0 uy0 kU kU) [(.int (lcmpW v1 (0 : Int64)))])) _
          refine XS.ifYes X35.here hx rfl (pc0 := 41) (pc' := 47) rfl (hb hby d1_41) rfl ((if0 _ _).trans (tlt hc366).2.2.1) (by decide) (by decide) ?_
          refine XS.iloadN X35.here hx rfl (hb hby d1_47) rfl ?_
          show Steps _ _ _ (T35.setTop (mkF m 48 (Lq1n3 a1 a2 p3 b2 b5 (kI 1) uc0 ux0 uy0 kU kU) [(.int p3)])) _
          refine XS.istore X35.here hx rfl (hb hby d1_48) rfl (l' := (Lq1n3 a1 a2 p3 b2 b5 (kI 1) (kI p3) ux0 uy0 kU kU)) (by rcases hsl_uc0 with rfl | ⟨_, rfl⟩ | ⟨_, rfl⟩ <;> rfl) ?_
          exact k)
        have F369 := ((Lf22_0.ext E25).other W35 ne10)
        have F370 := (V_b25.other W35 (Ne.symm ne33))
        refine own_loop (α := State × (List Loc) × Heap × Int32 × Slot × Slot × (Nat → Int64) × (Nat → Int32)) (fun a => match a with | (T368, locs368, h368, wc1, wx1, wy1, wb1, wt1) => wc1.toInt ≤ p3.toInt ∧ own_lp p3 ub1 v1 s1 wc1 wb1 wt1 ∧ own_sl2 wx1 wy1 ∧ Stand p l e ({ frames := 0, cells := 7, slots := 73, locals := 0 } : Room) s m #[(.ref a1), (.ref a2), (.int p3)] below meth c T368 locs368 4 51 ∧ T368.heap = h368 ∧ Fr n0 locs368 ∧ Keep h35 h368 [b2, b25] ∧ AJ Z h368 b2 .long (p3 + (1 : Int32)) wb1 ∧ AI Z h368 b25 .boolean (p3 + (1 : Int32)) wt1 ∧ (∀ t, Steps p.tables e below (T368.setTop (mkF m 50 (Lq1n3 a1 a2 p3 b2 b5 (kI 1) (kI wc1) wx1 wy1 kU kU) [])) t → Steps p.tables e below (s₁.setTop (entryFrame m #[(.ref a1), (.ref a2), (.int p3)] 12)) t)) (fun a => match a with | (T368, locs368, h368, wc1, wx1, wy1, wb1, wt1) => (wc1.toInt + 1).toNat) ?_ (T35, _, _, p3, ux0, uy0, ub1, (fun _ => 0)) ⟨(Int.le_refl _), (own_lp0 _ _ _ _ hcap), hsl_ux0, X35, e35, N35, Keep.refl _ _, F369, F370, pre367⟩
        rintro ⟨T368, locs368, h368, wc1, wx1, wy1, wb1, wt1⟩ ⟨hc1_1, hL1, hsl_wx1, X368, e368, N368, Kl368, Lf368_0, Lf368_1, pre368⟩ ih368
        have K371 : Keep h0 h368 [] := K35.trans Kl368 (allS (Or.inr sz_b2) (allS (Or.inr sz_b25) all0))
        have F373 := (((F28.ext E25).other W35 ne7).keep Kl368 (ninS ne3 (ninS ne29 nin0)))
        obtain ⟨cl372, A372, S372, Nl372, M372⟩ := id F373
        have hin372 : ¬ ((1 : Int32) < 0 ∨ cl372.slots.size ≤ ((1 : Int32)).toNatClampNeg) := AV.inb S372 Nl372 ⟨by decide, by decide⟩
        have hat372 : cl372.slots[((1 : Int32)).toNatClampNeg]? = some (.int s1) := AV.at S372 rfl
        have pre374 : ∀ t, Steps p.tables e below (T368.setTop (mkF m 56 (Lq1n3 a1 a2 p3 b2 b5 (kI 1) (kI wc1) wx1 wy1 kU kU) [(.int s1), (.int wc1)])) t → Steps p.tables e below (s₁.setTop (entryFrame m #[(.ref a1), (.ref a2), (.int p3)] 12)) t := fun t k => pre368 t (by
          show Steps _ _ _ (T368.setTop (mkF m 50 (Lq1n3 a1 a2 p3 b2 b5 (kI 1) (kI wc1) wx1 wy1 kU kU) [])) _
          refine XS.iload X368.here hx rfl (hb hby d1_50) rfl ?_
          refine XS.aloadN X368.here hx rfl (hb hby d1_52) rfl rfl ?_
          show Steps _ _ _ (T368.setTop (mkF m 53 (Lq1n3 a1 a2 p3 b2 b5 (kI 1) (kI wc1) wx1 wy1 kU kU) [(.ref a1), (.int wc1)])) _
          refine XS.iload X368.here hx rfl (hb hby d1_53) rfl ?_
          refine X368.iaload hx (j := (1 : Int32)) (v := (.int s1)) (by rw [e368]; exact A372.1) (State.isArrayOf_alike hZ.alike A372.2.1) A372.2.2 hin372 hat372 (g := (mkF m 55 (Lq1n3 a1 a2 p3 b2 b5 (kI 1) (kI wc1) wx1 wy1 kU kU) [(.int (1 : Int32)), (.ref a1), (.int wc1)])) rfl rfl (hb hby d1_55) _ ?_
          exact k)
        by_cases hc375 : wc1 < s1
        · have pre376 : ∀ t, Steps p.tables e below (T368.setTop (mkF m 109 (Lq1n3 a1 a2 p3 b2 b5 (kI 1) (kI wc1) wx1 wy1 kU kU) [])) t → Steps p.tables e below (s₁.setTop (entryFrame m #[(.ref a1), (.ref a2), (.int p3)] 12)) t := fun t k => pre374 t (by
            show Steps _ _ _ (T368.setTop (mkF m 56 (Lq1n3 a1 a2 p3 b2 b5 (kI 1) (kI wc1) wx1 wy1 kU kU) [(.int s1), (.int wc1)])) _
            refine XS.icmpYes X368.here hx rfl (pc0 := 56) (pc' := 109) rfl (hb hby d1_56) rfl (tlt hc375).1 (by decide) (by decide) ?_
            exact k)
          exact jn38 (T368, _, _, .val (.int wc1), wx1, wy1, wb1, wt1) ⟨(own_lpE hs1 hL1 hc375), (Or.inr (Or.inl ⟨_, rfl⟩)), hsl_wx1, X368, e368, N368, (((Keep.refl _ _).trans Kl368 (allS (Or.inl (List.mem_of_getElem? (i := 0) rfl)) (allS (Or.inl (List.mem_of_getElem? (i := 1) rfl)) all0)))), Lf368_0, Lf368_1, fun t k => pre376 t k⟩
        · obtain ⟨cl377, A377, S377, Nl377, M377⟩ := id F373
          have hin377 : ¬ ((1 : Int32) < 0 ∨ cl377.slots.size ≤ ((1 : Int32)).toNatClampNeg) := AV.inb S377 Nl377 ⟨by decide, by decide⟩
          have hat377 : cl377.slots[((1 : Int32)).toNatClampNeg]? = some (.int s1) := AV.at S377 rfl
          obtain ⟨cl378, A378, S378, M378, G378⟩ := id Lf368_0
          have hin378 : ¬ ((wc1 - s1) < 0 ∨ cl378.slots.size ≤ ((wc1 - s1)).toNatClampNeg) := inb_of S378 (own_ixr hcap (own_rgs hcap hs1 hc1_1 hc375))
          have hat378 : cl378.slots[((wc1 - s1)).toNatClampNeg]? = some (.long (wb1 ((wc1 - s1)).toNatClampNeg)) := AJ.at S378 G378 hin378
          have F380 := (F364.keep Kl368 (ninS ne4 (ninS ne31 nin0)))
          obtain ⟨cl379, A379, S379, Nl379, M379⟩ := id F380
          have hin379 : ¬ ((1 : Int32) < 0 ∨ cl379.slots.size ≤ ((1 : Int32)).toNatClampNeg) := AV.inb S379 Nl379 ⟨by decide, by decide⟩
          have hat379 : cl379.slots[((1 : Int32)).toNatClampNeg]? = some (.long v1) := AV.at S379 rfl
          obtain ⟨cl381, A381, S381, M381, G381⟩ := id Lf368_0
          have hin381 : ¬ (wc1 < 0 ∨ cl381.slots.size ≤ (wc1).toNatClampNeg) := inb_of S381 (own_ixr hcap (own_rgc hs1 hc1_1 hc375))
          have hat381 : cl381.slots[(wc1).toNatClampNeg]? = some (.long (wb1 (wc1).toNatClampNeg)) := AJ.at S381 G381 hin381
          have pre382 : ∀ t, Steps p.tables e below (T368.setTop (mkF m 84 (Lq1n3 a1 a2 p3 b2 b5 (kI 1) (kI wc1) (kJ ((wb1 ((wc1 - s1)).toNatClampNeg) + v1)) kD kU kU) [(.int (lcmpW ((wb1 ((wc1 - s1)).toNatClampNeg) + v1) (wb1 (wc1).toNatClampNeg)))])) t → Steps p.tables e below (s₁.setTop (entryFrame m #[(.ref a1), (.ref a2), (.int p3)] 12)) t := fun t k => pre374 t (by
            show Steps _ _ _ (T368.setTop (mkF m 56 (Lq1n3 a1 a2 p3 b2 b5 (kI 1) (kI wc1) wx1 wy1 kU kU) [(.int s1), (.int wc1)])) _
            refine XS.icmpNo X368.here hx rfl (hb hby d1_56) rfl (flt hc375).1 ?_
            show Steps _ _ _ (T368.setTop (mkF m 59 (Lq1n3 a1 a2 p3 b2 b5 (kI 1) (kI wc1) wx1 wy1 kU kU) [])) _
            refine XS.aload X368.here hx rfl (hb hby d1_59) rfl rfl ?_
            refine XS.iload X368.here hx rfl (hb hby d1_61) rfl ?_
            refine XS.aloadN X368.here hx rfl (hb hby d1_63) rfl rfl ?_
            show Steps _ _ _ (T368.setTop (mkF m 64 (Lq1n3 a1 a2 p3 b2 b5 (kI 1) (kI wc1) wx1 wy1 kU kU) [(.ref a1), (.int wc1), (.ref b2)])) _
            refine XS.iload X368.here hx rfl (hb hby d1_64) rfl ?_
            refine X368.iaload hx (j := (1 : Int32)) (v := (.int s1)) (by rw [e368]; exact A377.1) (State.isArrayOf_alike hZ.alike A377.2.1) A377.2.2 hin377 hat377 (g := (mkF m 66 (Lq1n3 a1 a2 p3 b2 b5 (kI 1) (kI wc1) wx1 wy1 kU kU) [(.int (1 : Int32)), (.ref a1), (.int wc1), (.ref b2)])) rfl rfl (hb hby d1_66) _ ?_
            refine XS.isub X368.here hx rfl (hb hby d1_67) rfl ?_
            refine X368.laload hx (j := (wc1 - s1)) (v := (.long (wb1 ((wc1 - s1)).toNatClampNeg))) (by rw [e368]; exact A378.1) (State.isArrayOf_alike hZ.alike A378.2.1) A378.2.2 hin378 hat378 (g := (mkF m 68 (Lq1n3 a1 a2 p3 b2 b5 (kI 1) (kI wc1) wx1 wy1 kU kU) [(.int (wc1 - s1)), (.ref b2)])) rfl rfl (hb hby d1_68) _ ?_
            refine XS.aloadN X368.here hx rfl (hb hby d1_69) rfl rfl ?_
            show Steps _ _ _ (T368.setTop (mkF m 70 (Lq1n3 a1 a2 p3 b2 b5 (kI 1) (kI wc1) wx1 wy1 kU kU) [(.ref a2), (.long (wb1 ((wc1 - s1)).toNatClampNeg))])) _
            refine XS.iload X368.here hx rfl (hb hby d1_70) rfl ?_
            refine X368.laload hx (j := (1 : Int32)) (v := (.long v1)) (by rw [e368]; exact A379.1) (State.isArrayOf_alike hZ.alike A379.2.1) A379.2.2 hin379 hat379 (g := (mkF m 72 (Lq1n3 a1 a2 p3 b2 b5 (kI 1) (kI wc1) wx1 wy1 kU kU) [(.int (1 : Int32)), (.ref a2), (.long (wb1 ((wc1 - s1)).toNatClampNeg))])) rfl rfl (hb hby d1_72) _ ?_
            refine XS.ladd X368.here hx rfl (hb hby d1_73) rfl ?_
            refine XS.lstore X368.here hx rfl (hb hby d1_74) rfl (l' := (Lq1n3 a1 a2 p3 b2 b5 (kI 1) (kI wc1) (kJ ((wb1 ((wc1 - s1)).toNatClampNeg) + v1)) kD kU kU)) (by rcases hsl_wx1 with ⟨rfl, rfl⟩ | ⟨_, rfl, rfl⟩ <;> rfl) ?_
            show Steps _ _ _ (T368.setTop (mkF m 76 (Lq1n3 a1 a2 p3 b2 b5 (kI 1) (kI wc1) (kJ ((wb1 ((wc1 - s1)).toNatClampNeg) + v1)) kD kU kU) [])) _
            refine XS.lload X368.here hx rfl (hb hby d1_76) rfl ?_
            refine XS.aload X368.here hx rfl (hb hby d1_78) rfl rfl ?_
            refine XS.iload X368.here hx rfl (hb hby d1_80) rfl ?_
            refine X368.laload hx (j := wc1) (v := (.long (wb1 (wc1).toNatClampNeg))) (by rw [e368]; exact A381.1) (State.isArrayOf_alike hZ.alike A381.2.1) A381.2.2 hin381 hat381 (g := (mkF m 82 (Lq1n3 a1 a2 p3 b2 b5 (kI 1) (kI wc1) (kJ ((wb1 ((wc1 - s1)).toNatClampNeg) + v1)) kD kU kU) [(.int wc1), (.ref b2), (.long ((wb1 ((wc1 - s1)).toNatClampNeg) + v1))])) rfl rfl (hb hby d1_82) _ ?_
            show Steps _ _ _ (T368.setTop (mkF m 83 (Lq1n3 a1 a2 p3 b2 b5 (kI 1) (kI wc1) (kJ ((wb1 ((wc1 - s1)).toNatClampNeg) + v1)) kD kU kU) [(.long (wb1 (wc1).toNatClampNeg)), (.long ((wb1 ((wc1 - s1)).toNatClampNeg) + v1))])) _
            refine XS.lcmp X368.here hx rfl (hb hby d1_83) rfl ?_
            exact k)
          by_cases hc383 : (0 : Int32) < (lcmpW ((wb1 ((wc1 - s1)).toNatClampNeg) + v1) (wb1 (wc1).toNatClampNeg))
          · obtain ⟨cl384, A384, S384, M384, G384⟩ := id Lf368_0
            have hin384 : ¬ (wc1 < 0 ∨ cl384.slots.size ≤ (wc1).toNatClampNeg) := inb_of S384 (own_ixr hcap (own_rgc hs1 hc1_1 hc375))
            obtain ⟨T384, h384, X384, e384, W384, st384⟩ := stJ X368 hx hZ e368 A384 (j := wc1) hin384 (g := (mkF m 93 (Lq1n3 a1 a2 p3 b2 b5 (kI 1) (kI wc1) (kJ ((wb1 ((wc1 - s1)).toNatClampNeg) + v1)) kD kU kU) [(.long ((wb1 ((wc1 - s1)).toNatClampNeg) + v1)), (.int wc1), (.ref b2)])) rfl rfl (hb hby d1_93)
            have V384 : AJ Z h384 b2 .long (p3 + (1 : Int32)) (fun i => if i = (wc1).toNatClampNeg then ((wb1 ((wc1 - s1)).toNatClampNeg) + v1) else wb1 i) := AJ.set A384 S384 M384 G384 W384
            have K384 : Keep h0 h384 [] := K371.wr W384 (Or.inr sz_b2)
            have N384 := Fr.snoc X384 N368 g_b2
            have F386 := ((V35.keep Kl368 (ninS (Ne.symm ne10) (ninS ne33 nin0))).other W384 (Ne.symm ne10))
            obtain ⟨cl385, A385, S385, Nl385, M385⟩ := id F386
            have hin385 : ¬ ((1 : Int32) < 0 ∨ cl385.slots.size ≤ ((1 : Int32)).toNatClampNeg) := AV.inb S385 Nl385 ⟨by decide, by decide⟩
            have hat385 : cl385.slots[((1 : Int32)).toNatClampNeg]? = some (.ref b25) := AV.at S385 rfl
            have F388 := (Lf368_1.other W384 (Ne.symm ne34))
            obtain ⟨cl387, A387, S387, M387, G387⟩ := id F388
            have hin387 : ¬ (wc1 < 0 ∨ cl387.slots.size ≤ (wc1).toNatClampNeg) := inb_of S387 (own_ixr hcap (own_rgc hs1 hc1_1 hc375))
            obtain ⟨T387, h387, X387, e387, W387, st387⟩ := stZ X384 hx hZ e384 A387 (j := wc1) hin387 (g := (mkF m 102 (Lq1n3 a1 a2 p3 b2 b5 (kI 1) (kI wc1) (kJ ((wb1 ((wc1 - s1)).toNatClampNeg) + v1)) kD kU kU) [(.int (1 : Int32)), (.int wc1), (.ref b25)])) rfl rfl (hb hby d1_102)
            have V387 : AI Z h387 b25 .boolean (p3 + (1 : Int32)) (fun i => if i = (wc1).toNatClampNeg then (1 : Int32) else wt1 i) := AI.set A387 S387 M387 G387 W387
            have K387 : Keep h0 h387 [] := K384.wr W387 (Or.inr sz_b25)
            have N387 := Fr.snoc X387 N384 g_b25
            have pre389 : ∀ t, Steps p.tables e below (T387.setTop (mkF m 50 (Lq1n3 a1 a2 p3 b2 b5 (kI 1) (kI (wc1 + (-1 : Int32))) (kJ ((wb1 ((wc1 - s1)).toNatClampNeg) + v1)) kD kU kU) [])) t → Steps p.tables e below (s₁.setTop (entryFrame m #[(.ref a1), (.ref a2), (.int p3)] 12)) t := fun t k => pre382 t (by
              show Steps _ _ _ (T368.setTop (mkF m 84 (Lq1n3 a1 a2 p3 b2 b5 (kI 1) (kI wc1) (kJ ((wb1 ((wc1 - s1)).toNatClampNeg) + v1)) kD kU kU) [(.int (lcmpW ((wb1 ((wc1 - s1)).toNatClampNeg) + v1) (wb1 (wc1).toNatClampNeg)))])) _
              refine XS.ifNo X368.here hx rfl (hb hby d1_84) rfl ((if0 _ _).trans (tlt hc383).2.2.2) ?_
              refine XS.aload X368.here hx rfl (hb hby d1_87) rfl rfl ?_
              show Steps _ _ _ (T368.setTop (mkF m 89 (Lq1n3 a1 a2 p3 b2 b5 (kI 1) (kI wc1) (kJ ((wb1 ((wc1 - s1)).toNatClampNeg) + v1)) kD kU kU) [(.ref b2)])) _
              refine XS.iload X368.here hx rfl (hb hby d1_89) rfl ?_
              refine XS.lload X368.here hx rfl (hb hby d1_91) rfl ?_
              refine st384 _ ?_
              refine XS.aload X384.here hx rfl (hb hby d1_94) rfl rfl ?_
              show Steps _ _ _ (T384.setTop (mkF m 96 (Lq1n3 a1 a2 p3 b2 b5 (kI 1) (kI wc1) (kJ ((wb1 ((wc1 - s1)).toNatClampNeg) + v1)) kD kU kU) [(.ref b5)])) _
              refine XS.iload X384.here hx rfl (hb hby d1_96) rfl ?_
              refine X384.aaload hx (j := (1 : Int32)) (v := (.ref b25)) (by rw [e384]; exact A385.1) (State.isArrayOf_alike hZ.alike A385.2.1) rfl A385.2.2 hin385 hat385 (g := (mkF m 98 (Lq1n3 a1 a2 p3 b2 b5 (kI 1) (kI wc1) (kJ ((wb1 ((wc1 - s1)).toNatClampNeg) + v1)) kD kU kU) [(.int (1 : Int32)), (.ref b5)])) rfl rfl (hb hby d1_98) _ ?_
              refine XS.iload X384.here hx rfl (hb hby d1_99) rfl ?_
              refine XS.iconst X384.here hx rfl (hb hby d1_101) ?_
              refine st387 _ ?_
              show Steps _ _ _ (T387.setTop (mkF m 103 (Lq1n3 a1 a2 p3 b2 b5 (kI 1) (kI wc1) (kJ ((wb1 ((wc1 - s1)).toNatClampNeg) + v1)) kD kU kU) [])) _
              refine XS.iinc X387.here hx rfl (hb hby d1_103) rfl (l' := (Lq1n3 a1 a2 p3 b2 b5 (kI 1) (kI (wc1 + (-1 : Int32))) (kJ ((wb1 ((wc1 - s1)).toNatClampNeg) + v1)) kD kU kU)) rfl ?_
              refine XS.goto X387.here hx rfl (pc0 := 106) (pc' := 50) rfl (hb hby d1_106) (by decide) (by decide) ?_
              exact k)
            have F390 := (V384.other W387 ne34)
            exact ih368 (T387, _, _, (wc1 + (-1 : Int32)), .val (.long ((wb1 ((wc1 - s1)).toNatClampNeg) + v1)), .second, (fun i => if i = (wc1).toNatClampNeg then ((wb1 ((wc1 - s1)).toNatClampNeg) + v1) else wb1 i), (fun i => if i = (wc1).toNatClampNeg then (1 : Int32) else wt1 i)) ⟨(own_mle hcap hs1 hc1_1 hc375), (own_stY hcap hs1 hc1_1 hc375 (own_gt.mp hc366) hL1 (own_gt.mp hc383)), (Or.inr ⟨_, rfl, rfl⟩), X387, e387, N387, (((Kl368.wr W384 (Or.inl (List.mem_of_getElem? (i := 0) rfl))).wr W387 (Or.inl (List.mem_of_getElem? (i := 1) rfl)))), F390, V387, fun t k => pre389 t k⟩ (own_mlt hcap hs1 hc1_1 hc375)
          · have pre391 : ∀ t, Steps p.tables e below (T368.setTop (mkF m 50 (Lq1n3 a1 a2 p3 b2 b5 (kI 1) (kI (wc1 + (-1 : Int32))) (kJ ((wb1 ((wc1 - s1)).toNatClampNeg) + v1)) kD kU kU) [])) t → Steps p.tables e below (s₁.setTop (entryFrame m #[(.ref a1), (.ref a2), (.int p3)] 12)) t := fun t k => pre382 t (by
              show Steps _ _ _ (T368.setTop (mkF m 84 (Lq1n3 a1 a2 p3 b2 b5 (kI 1) (kI wc1) (kJ ((wb1 ((wc1 - s1)).toNatClampNeg) + v1)) kD kU kU) [(.int (lcmpW ((wb1 ((wc1 - s1)).toNatClampNeg) + v1) (wb1 (wc1).toNatClampNeg)))])) _
              refine XS.ifYes X368.here hx rfl (pc0 := 84) (pc' := 103) rfl (hb hby d1_84) rfl ((if0 _ _).trans (flt hc383).2.2.2) (by decide) (by decide) ?_
              show Steps _ _ _ (T368.setTop (mkF m 103 (Lq1n3 a1 a2 p3 b2 b5 (kI 1) (kI wc1) (kJ ((wb1 ((wc1 - s1)).toNatClampNeg) + v1)) kD kU kU) [])) _
              refine XS.iinc X368.here hx rfl (hb hby d1_103) rfl (l' := (Lq1n3 a1 a2 p3 b2 b5 (kI 1) (kI (wc1 + (-1 : Int32))) (kJ ((wb1 ((wc1 - s1)).toNatClampNeg) + v1)) kD kU kU)) rfl ?_
              refine XS.goto X368.here hx rfl (pc0 := 106) (pc' := 50) rfl (hb hby d1_106) (by decide) (by decide) ?_
              exact k)
            exact ih368 (T368, _, _, (wc1 + (-1 : Int32)), .val (.long ((wb1 ((wc1 - s1)).toNatClampNeg) + v1)), .second, wb1, wt1) ⟨(own_mle hcap hs1 hc1_1 hc375), (own_stN hcap hs1 hc1_1 hc375 hL1 (fun q => hc383 (own_gt.mpr q))), (Or.inr ⟨_, rfl, rfl⟩), X368, e368, N368, (Kl368), Lf368_0, Lf368_1, fun t k => pre391 t k⟩ (own_mlt hcap hs1 hc1_1 hc375)
      · have pre392 : ∀ t, Steps p.tables e below (T35.setTop (mkF m 109 (Lq1n3 a1 a2 p3 b2 b5 (kI 1) uc0 ux0 uy0 kU kU) [])) t → Steps p.tables e below (s₁.setTop (entryFrame m #[(.ref a1), (.ref a2), (.int p3)] 12)) t := fun t k => pre365 t (by
          show Steps _ _ _ (T35.setTop (mkF m 41 (Lq1n3 a1 a2 p3 b2 b5 (kI 1) uc0 ux0 uy0 kU kU) [(.int (lcmpW v1 (0 : Int64)))])) _
          refine XS.ifNo X35.here hx rfl (hb hby d1_41) rfl ((if0 _ _).trans (flt hc366).2.2.1) ?_
          show Steps _ _ _ (T35.setTop (mkF m 44 (Lq1n3 a1 a2 p3 b2 b5 (kI 1) uc0 ux0 uy0 kU kU) [])) _
          refine XS.goto X35.here hx rfl (pc0 := 44) (pc' := 109) rfl (hb hby d1_44) (by decide) (by decide) ?_
          exact k)
        have F393 := ((Lf22_0.ext E25).other W35 ne10)
        have F394 := (V_b25.other W35 (Ne.symm ne33))
        exact jn38 (T35, _, _, uc0, ux0, uy0, ub1, (fun _ => 0)) ⟨(own_itn (fun q => hc366 (own_gt.mpr q))), hsl_uc0, hsl_ux0, X35, e35, N35, ((Keep.refl _ _)), F393, F394, fun t k => pre392 t k⟩
  · intro jn22
    have F396 := ((F14.ext E11).other W19 ne9)
    obtain ⟨cl395, A395, S395, Nl395, M395⟩ := id F396
    have hin395 : ¬ ((0 : Int32) < 0 ∨ cl395.slots.size ≤ ((0 : Int32)).toNatClampNeg) := AV.inb S395 Nl395 ⟨by decide, by decide⟩
    have hat395 : cl395.slots[((0 : Int32)).toNatClampNeg]? = some (.long v0) := AV.at S395 rfl
    have pre397 : ∀ t, Steps p.tables e below (T19.setTop (mkF m 41 (Lq1n3 a1 a2 p3 b2 b5 (kI 0) kU kU kU kU kU) [(.int (lcmpW v0 (0 : Int64)))])) t → Steps p.tables e below (s₁.setTop (entryFrame m #[(.ref a1), (.ref a2), (.int p3)] 12)) t := fun t k => pre23 t (by
      show Steps _ _ _ (T19.setTop (mkF m 35 (Lq1n3 a1 a2 p3 b2 b5 (kI 0) kU kU kU kU kU) [])) _
      refine XS.aloadN X19.here hx rfl (hb hby d1_35) rfl rfl ?_
      refine XS.iload X19.here hx rfl (hb hby d1_36) rfl ?_
      refine X19.laload hx (j := (0 : Int32)) (v := (.long v0)) (by rw [e19]; exact A395.1) (State.isArrayOf_alike hZ.alike A395.2.1) A395.2.2 hin395 hat395 (g := (mkF m 38 (Lq1n3 a1 a2 p3 b2 b5 (kI 0) kU kU kU kU kU) [(.int (0 : Int32)), (.ref a2)])) rfl rfl (hb hby d1_38) _ ?_
      show Steps _ _ _ (T19.setTop (mkF m 39 (Lq1n3 a1 a2 p3 b2 b5 (kI 0) kU kU kU kU kU) [(.long v0)])) _
      refine XS.lconst X19.here hx rfl (hb hby d1_39) ?_
      refine XS.lcmp X19.here hx rfl (hb hby d1_40) rfl ?_
      exact k)
    by_cases hc398 : (0 : Int32) < (lcmpW v0 (0 : Int64))
    · have pre399 : ∀ t, Steps p.tables e below (T19.setTop (mkF m 50 (Lq1n3 a1 a2 p3 b2 b5 (kI 0) (kI p3) kU kU kU kU) [])) t → Steps p.tables e below (s₁.setTop (entryFrame m #[(.ref a1), (.ref a2), (.int p3)] 12)) t := fun t k => pre397 t (by
        show Steps _ _ _ (T19.setTop (mkF m 41 (Lq1n3 a1 a2 p3 b2 b5 (kI 0) kU kU kU kU kU) [(.int (lcmpW v0 (0 : Int64)))])) _
        refine XS.ifYes X19.here hx rfl (pc0 := 41) (pc' := 47) rfl (hb hby d1_41) rfl ((if0 _ _).trans (tlt hc398).2.2.1) (by decide) (by decide) ?_
        show Steps _ _ _ (T19.setTop (mkF m 47 (Lq1n3 a1 a2 p3 b2 b5 (kI 0) kU kU kU kU kU) [])) _
        refine XS.iloadN X19.here hx rfl (hb hby d1_47) rfl ?_
        refine XS.istore X19.here hx rfl (hb hby d1_48) rfl (l' := (Lq1n3 a1 a2 p3 b2 b5 (kI 0) (kI p3) kU kU kU kU)) rfl ?_
        exact k)
      have F401 := ((F16.ext E11).other W19 ne10)
      have F402 := (V_b11.other W19 (Ne.symm ne18))
      refine own_loop (α := State × (List Loc) × Heap × Int32 × Slot × Slot × (Nat → Int64) × (Nat → Int32)) (fun a => match a with | (T400, locs400, h400, wc0, wx0, wy0, wb0, wt0) => wc0.toInt ≤ p3.toInt ∧ own_lp p3 (fun _ => 0) v0 s0 wc0 wb0 wt0 ∧ own_sl2 wx0 wy0 ∧ Stand p l e ({ frames := 0, cells := 7, slots := 73, locals := 0 } : Room) s m #[(.ref a1), (.ref a2), (.int p3)] below meth c T400 locs400 3 35 ∧ T400.heap = h400 ∧ Fr n0 locs400 ∧ Keep h19 h400 [b2, b11] ∧ AJ Z h400 b2 .long (p3 + (1 : Int32)) wb0 ∧ AI Z h400 b11 .boolean (p3 + (1 : Int32)) wt0 ∧ (∀ t, Steps p.tables e below (T400.setTop (mkF m 50 (Lq1n3 a1 a2 p3 b2 b5 (kI 0) (kI wc0) wx0 wy0 kU kU) [])) t → Steps p.tables e below (s₁.setTop (entryFrame m #[(.ref a1), (.ref a2), (.int p3)] 12)) t)) (fun a => match a with | (T400, locs400, h400, wc0, wx0, wy0, wb0, wt0) => (wc0.toInt + 1).toNat) ?_ (T19, _, _, p3, .unset, .unset, (fun _ => 0), (fun _ => 0)) ⟨(Int.le_refl _), (own_lp0 _ _ _ _ hcap), (Or.inl ⟨rfl, rfl⟩), X19, e19, N19, Keep.refl _ _, F401, F402, pre399⟩
      rintro ⟨T400, locs400, h400, wc0, wx0, wy0, wb0, wt0⟩ ⟨hc1_0, hL0, hsl_wx0, X400, e400, N400, Kl400, Lf400_0, Lf400_1, pre400⟩ ih400
      have K403 : Keep h0 h400 [] := K19.trans Kl400 (allS (Or.inr sz_b2) (allS (Or.inr sz_b11) all0))
      have F405 := (((F12.ext E11).other W19 ne7).keep Kl400 (ninS ne3 (ninS ne13 nin0)))
      obtain ⟨cl404, A404, S404, Nl404, M404⟩ := id F405
      have hin404 : ¬ ((0 : Int32) < 0 ∨ cl404.slots.size ≤ ((0 : Int32)).toNatClampNeg) := AV.inb S404 Nl404 ⟨by decide, by decide⟩
      have hat404 : cl404.slots[((0 : Int32)).toNatClampNeg]? = some (.int s0) := AV.at S404 rfl
      have pre406 : ∀ t, Steps p.tables e below (T400.setTop (mkF m 56 (Lq1n3 a1 a2 p3 b2 b5 (kI 0) (kI wc0) wx0 wy0 kU kU) [(.int s0), (.int wc0)])) t → Steps p.tables e below (s₁.setTop (entryFrame m #[(.ref a1), (.ref a2), (.int p3)] 12)) t := fun t k => pre400 t (by
        show Steps _ _ _ (T400.setTop (mkF m 50 (Lq1n3 a1 a2 p3 b2 b5 (kI 0) (kI wc0) wx0 wy0 kU kU) [])) _
        refine XS.iload X400.here hx rfl (hb hby d1_50) rfl ?_
        show Steps _ _ _ (T400.setTop (mkF m 52 (Lq1n3 a1 a2 p3 b2 b5 (kI 0) (kI wc0) wx0 wy0 kU kU) [(.int wc0)])) _
        refine XS.aloadN X400.here hx rfl (hb hby d1_52) rfl rfl ?_
        refine XS.iload X400.here hx rfl (hb hby d1_53) rfl ?_
        refine X400.iaload hx (j := (0 : Int32)) (v := (.int s0)) (by rw [e400]; exact A404.1) (State.isArrayOf_alike hZ.alike A404.2.1) A404.2.2 hin404 hat404 (g := (mkF m 55 (Lq1n3 a1 a2 p3 b2 b5 (kI 0) (kI wc0) wx0 wy0 kU kU) [(.int (0 : Int32)), (.ref a1), (.int wc0)])) rfl rfl (hb hby d1_55) _ ?_
        exact k)
      by_cases hc407 : wc0 < s0
      · have pre408 : ∀ t, Steps p.tables e below (T400.setTop (mkF m 109 (Lq1n3 a1 a2 p3 b2 b5 (kI 0) (kI wc0) wx0 wy0 kU kU) [])) t → Steps p.tables e below (s₁.setTop (entryFrame m #[(.ref a1), (.ref a2), (.int p3)] 12)) t := fun t k => pre406 t (by
          show Steps _ _ _ (T400.setTop (mkF m 56 (Lq1n3 a1 a2 p3 b2 b5 (kI 0) (kI wc0) wx0 wy0 kU kU) [(.int s0), (.int wc0)])) _
          refine XS.icmpYes X400.here hx rfl (pc0 := 56) (pc' := 109) rfl (hb hby d1_56) rfl (tlt hc407).1 (by decide) (by decide) ?_
          exact k)
        exact jn22 (T400, _, _, .val (.int wc0), wx0, wy0, wb0, wt0) ⟨(own_lpE hs0 hL0 hc407), (Or.inr (Or.inl ⟨_, rfl⟩)), hsl_wx0, X400, e400, N400, (((Keep.refl _ _).trans Kl400 (allS (Or.inl (List.mem_of_getElem? (i := 0) rfl)) (allS (Or.inl (List.mem_of_getElem? (i := 1) rfl)) all0)))), Lf400_0, Lf400_1, fun t k => pre408 t k⟩
      · obtain ⟨cl409, A409, S409, Nl409, M409⟩ := id F405
        have hin409 : ¬ ((0 : Int32) < 0 ∨ cl409.slots.size ≤ ((0 : Int32)).toNatClampNeg) := AV.inb S409 Nl409 ⟨by decide, by decide⟩
        have hat409 : cl409.slots[((0 : Int32)).toNatClampNeg]? = some (.int s0) := AV.at S409 rfl
        obtain ⟨cl410, A410, S410, M410, G410⟩ := id Lf400_0
        have hin410 : ¬ ((wc0 - s0) < 0 ∨ cl410.slots.size ≤ ((wc0 - s0)).toNatClampNeg) := inb_of S410 (own_ixr hcap (own_rgs hcap hs0 hc1_0 hc407))
        have hat410 : cl410.slots[((wc0 - s0)).toNatClampNeg]? = some (.long (wb0 ((wc0 - s0)).toNatClampNeg)) := AJ.at S410 G410 hin410
        have F412 := (F396.keep Kl400 (ninS ne4 (ninS ne15 nin0)))
        obtain ⟨cl411, A411, S411, Nl411, M411⟩ := id F412
        have hin411 : ¬ ((0 : Int32) < 0 ∨ cl411.slots.size ≤ ((0 : Int32)).toNatClampNeg) := AV.inb S411 Nl411 ⟨by decide, by decide⟩
        have hat411 : cl411.slots[((0 : Int32)).toNatClampNeg]? = some (.long v0) := AV.at S411 rfl
        obtain ⟨cl413, A413, S413, M413, G413⟩ := id Lf400_0
        have hin413 : ¬ (wc0 < 0 ∨ cl413.slots.size ≤ (wc0).toNatClampNeg) := inb_of S413 (own_ixr hcap (own_rgc hs0 hc1_0 hc407))
        have hat413 : cl413.slots[(wc0).toNatClampNeg]? = some (.long (wb0 (wc0).toNatClampNeg)) := AJ.at S413 G413 hin413
        have pre414 : ∀ t, Steps p.tables e below (T400.setTop (mkF m 84 (Lq1n3 a1 a2 p3 b2 b5 (kI 0) (kI wc0) (kJ ((wb0 ((wc0 - s0)).toNatClampNeg) + v0)) kD kU kU) [(.int (lcmpW ((wb0 ((wc0 - s0)).toNatClampNeg) + v0) (wb0 (wc0).toNatClampNeg)))])) t → Steps p.tables e below (s₁.setTop (entryFrame m #[(.ref a1), (.ref a2), (.int p3)] 12)) t := fun t k => pre406 t (by
          show Steps _ _ _ (T400.setTop (mkF m 56 (Lq1n3 a1 a2 p3 b2 b5 (kI 0) (kI wc0) wx0 wy0 kU kU) [(.int s0), (.int wc0)])) _
          refine XS.icmpNo X400.here hx rfl (hb hby d1_56) rfl (flt hc407).1 ?_
          refine XS.aload X400.here hx rfl (hb hby d1_59) rfl rfl ?_
          refine XS.iload X400.here hx rfl (hb hby d1_61) rfl ?_
          show Steps _ _ _ (T400.setTop (mkF m 63 (Lq1n3 a1 a2 p3 b2 b5 (kI 0) (kI wc0) wx0 wy0 kU kU) [(.int wc0), (.ref b2)])) _
          refine XS.aloadN X400.here hx rfl (hb hby d1_63) rfl rfl ?_
          refine XS.iload X400.here hx rfl (hb hby d1_64) rfl ?_
          refine X400.iaload hx (j := (0 : Int32)) (v := (.int s0)) (by rw [e400]; exact A409.1) (State.isArrayOf_alike hZ.alike A409.2.1) A409.2.2 hin409 hat409 (g := (mkF m 66 (Lq1n3 a1 a2 p3 b2 b5 (kI 0) (kI wc0) wx0 wy0 kU kU) [(.int (0 : Int32)), (.ref a1), (.int wc0), (.ref b2)])) rfl rfl (hb hby d1_66) _ ?_
          refine XS.isub X400.here hx rfl (hb hby d1_67) rfl ?_
          refine X400.laload hx (j := (wc0 - s0)) (v := (.long (wb0 ((wc0 - s0)).toNatClampNeg))) (by rw [e400]; exact A410.1) (State.isArrayOf_alike hZ.alike A410.2.1) A410.2.2 hin410 hat410 (g := (mkF m 68 (Lq1n3 a1 a2 p3 b2 b5 (kI 0) (kI wc0) wx0 wy0 kU kU) [(.int (wc0 - s0)), (.ref b2)])) rfl rfl (hb hby d1_68) _ ?_
          show Steps _ _ _ (T400.setTop (mkF m 69 (Lq1n3 a1 a2 p3 b2 b5 (kI 0) (kI wc0) wx0 wy0 kU kU) [(.long (wb0 ((wc0 - s0)).toNatClampNeg))])) _
          refine XS.aloadN X400.here hx rfl (hb hby d1_69) rfl rfl ?_
          refine XS.iload X400.here hx rfl (hb hby d1_70) rfl ?_
          refine X400.laload hx (j := (0 : Int32)) (v := (.long v0)) (by rw [e400]; exact A411.1) (State.isArrayOf_alike hZ.alike A411.2.1) A411.2.2 hin411 hat411 (g := (mkF m 72 (Lq1n3 a1 a2 p3 b2 b5 (kI 0) (kI wc0) wx0 wy0 kU kU) [(.int (0 : Int32)), (.ref a2), (.long (wb0 ((wc0 - s0)).toNatClampNeg))])) rfl rfl (hb hby d1_72) _ ?_
          refine XS.ladd X400.here hx rfl (hb hby d1_73) rfl ?_
          show Steps _ _ _ (T400.setTop (mkF m 74 (Lq1n3 a1 a2 p3 b2 b5 (kI 0) (kI wc0) wx0 wy0 kU kU) [(.long ((wb0 ((wc0 - s0)).toNatClampNeg) + v0))])) _
          refine XS.lstore X400.here hx rfl (hb hby d1_74) rfl (l' := (Lq1n3 a1 a2 p3 b2 b5 (kI 0) (kI wc0) (kJ ((wb0 ((wc0 - s0)).toNatClampNeg) + v0)) kD kU kU)) (by rcases hsl_wx0 with ⟨rfl, rfl⟩ | ⟨_, rfl, rfl⟩ <;> rfl) ?_
          refine XS.lload X400.here hx rfl (hb hby d1_76) rfl ?_
          refine XS.aload X400.here hx rfl (hb hby d1_78) rfl rfl ?_
          show Steps _ _ _ (T400.setTop (mkF m 80 (Lq1n3 a1 a2 p3 b2 b5 (kI 0) (kI wc0) (kJ ((wb0 ((wc0 - s0)).toNatClampNeg) + v0)) kD kU kU) [(.ref b2), (.long ((wb0 ((wc0 - s0)).toNatClampNeg) + v0))])) _
          refine XS.iload X400.here hx rfl (hb hby d1_80) rfl ?_
          refine X400.laload hx (j := wc0) (v := (.long (wb0 (wc0).toNatClampNeg))) (by rw [e400]; exact A413.1) (State.isArrayOf_alike hZ.alike A413.2.1) A413.2.2 hin413 hat413 (g := (mkF m 82 (Lq1n3 a1 a2 p3 b2 b5 (kI 0) (kI wc0) (kJ ((wb0 ((wc0 - s0)).toNatClampNeg) + v0)) kD kU kU) [(.int wc0), (.ref b2), (.long ((wb0 ((wc0 - s0)).toNatClampNeg) + v0))])) rfl rfl (hb hby d1_82) _ ?_
          refine XS.lcmp X400.here hx rfl (hb hby d1_83) rfl ?_
          exact k)
        by_cases hc415 : (0 : Int32) < (lcmpW ((wb0 ((wc0 - s0)).toNatClampNeg) + v0) (wb0 (wc0).toNatClampNeg))
        · obtain ⟨cl416, A416, S416, M416, G416⟩ := id Lf400_0
          have hin416 : ¬ (wc0 < 0 ∨ cl416.slots.size ≤ (wc0).toNatClampNeg) := inb_of S416 (own_ixr hcap (own_rgc hs0 hc1_0 hc407))
          obtain ⟨T416, h416, X416, e416, W416, st416⟩ := stJ X400 hx hZ e400 A416 (j := wc0) hin416 (g := (mkF m 93 (Lq1n3 a1 a2 p3 b2 b5 (kI 0) (kI wc0) (kJ ((wb0 ((wc0 - s0)).toNatClampNeg) + v0)) kD kU kU) [(.long ((wb0 ((wc0 - s0)).toNatClampNeg) + v0)), (.int wc0), (.ref b2)])) rfl rfl (hb hby d1_93)
          have V416 : AJ Z h416 b2 .long (p3 + (1 : Int32)) (fun i => if i = (wc0).toNatClampNeg then ((wb0 ((wc0 - s0)).toNatClampNeg) + v0) else wb0 i) := AJ.set A416 S416 M416 G416 W416
          have K416 : Keep h0 h416 [] := K403.wr W416 (Or.inr sz_b2)
          have N416 := Fr.snoc X416 N400 g_b2
          have F418 := ((V19.keep Kl400 (ninS (Ne.symm ne10) (ninS ne18 nin0))).other W416 (Ne.symm ne10))
          obtain ⟨cl417, A417, S417, Nl417, M417⟩ := id F418
          have hin417 : ¬ ((0 : Int32) < 0 ∨ cl417.slots.size ≤ ((0 : Int32)).toNatClampNeg) := AV.inb S417 Nl417 ⟨by decide, by decide⟩
          have hat417 : cl417.slots[((0 : Int32)).toNatClampNeg]? = some (.ref b11) := AV.at S417 rfl
          have F420 := (Lf400_1.other W416 (Ne.symm ne17))
          obtain ⟨cl419, A419, S419, M419, G419⟩ := id F420
          have hin419 : ¬ (wc0 < 0 ∨ cl419.slots.size ≤ (wc0).toNatClampNeg) := inb_of S419 (own_ixr hcap (own_rgc hs0 hc1_0 hc407))
          obtain ⟨T419, h419, X419, e419, W419, st419⟩ := stZ X416 hx hZ e416 A419 (j := wc0) hin419 (g := (mkF m 102 (Lq1n3 a1 a2 p3 b2 b5 (kI 0) (kI wc0) (kJ ((wb0 ((wc0 - s0)).toNatClampNeg) + v0)) kD kU kU) [(.int (1 : Int32)), (.int wc0), (.ref b11)])) rfl rfl (hb hby d1_102)
          have V419 : AI Z h419 b11 .boolean (p3 + (1 : Int32)) (fun i => if i = (wc0).toNatClampNeg then (1 : Int32) else wt0 i) := AI.set A419 S419 M419 G419 W419
          have K419 : Keep h0 h419 [] := K416.wr W419 (Or.inr sz_b11)
          have N419 := Fr.snoc X419 N416 g_b11
          have pre421 : ∀ t, Steps p.tables e below (T419.setTop (mkF m 50 (Lq1n3 a1 a2 p3 b2 b5 (kI 0) (kI (wc0 + (-1 : Int32))) (kJ ((wb0 ((wc0 - s0)).toNatClampNeg) + v0)) kD kU kU) [])) t → Steps p.tables e below (s₁.setTop (entryFrame m #[(.ref a1), (.ref a2), (.int p3)] 12)) t := fun t k => pre414 t (by
            show Steps _ _ _ (T400.setTop (mkF m 84 (Lq1n3 a1 a2 p3 b2 b5 (kI 0) (kI wc0) (kJ ((wb0 ((wc0 - s0)).toNatClampNeg) + v0)) kD kU kU) [(.int (lcmpW ((wb0 ((wc0 - s0)).toNatClampNeg) + v0) (wb0 (wc0).toNatClampNeg)))])) _
            refine XS.ifNo X400.here hx rfl (hb hby d1_84) rfl ((if0 _ _).trans (tlt hc415).2.2.2) ?_
            show Steps _ _ _ (T400.setTop (mkF m 87 (Lq1n3 a1 a2 p3 b2 b5 (kI 0) (kI wc0) (kJ ((wb0 ((wc0 - s0)).toNatClampNeg) + v0)) kD kU kU) [])) _
            refine XS.aload X400.here hx rfl (hb hby d1_87) rfl rfl ?_
            refine XS.iload X400.here hx rfl (hb hby d1_89) rfl ?_
            refine XS.lload X400.here hx rfl (hb hby d1_91) rfl ?_
            refine st416 _ ?_
            show Steps _ _ _ (T416.setTop (mkF m 94 (Lq1n3 a1 a2 p3 b2 b5 (kI 0) (kI wc0) (kJ ((wb0 ((wc0 - s0)).toNatClampNeg) + v0)) kD kU kU) [])) _
            refine XS.aload X416.here hx rfl (hb hby d1_94) rfl rfl ?_
            refine XS.iload X416.here hx rfl (hb hby d1_96) rfl ?_
            refine X416.aaload hx (j := (0 : Int32)) (v := (.ref b11)) (by rw [e416]; exact A417.1) (State.isArrayOf_alike hZ.alike A417.2.1) rfl A417.2.2 hin417 hat417 (g := (mkF m 98 (Lq1n3 a1 a2 p3 b2 b5 (kI 0) (kI wc0) (kJ ((wb0 ((wc0 - s0)).toNatClampNeg) + v0)) kD kU kU) [(.int (0 : Int32)), (.ref b5)])) rfl rfl (hb hby d1_98) _ ?_
            refine XS.iload X416.here hx rfl (hb hby d1_99) rfl ?_
            show Steps _ _ _ (T416.setTop (mkF m 101 (Lq1n3 a1 a2 p3 b2 b5 (kI 0) (kI wc0) (kJ ((wb0 ((wc0 - s0)).toNatClampNeg) + v0)) kD kU kU) [(.int wc0), (.ref b11)])) _
            refine XS.iconst X416.here hx rfl (hb hby d1_101) ?_
            refine st419 _ ?_
            refine XS.iinc X419.here hx rfl (hb hby d1_103) rfl (l' := (Lq1n3 a1 a2 p3 b2 b5 (kI 0) (kI (wc0 + (-1 : Int32))) (kJ ((wb0 ((wc0 - s0)).toNatClampNeg) + v0)) kD kU kU)) rfl ?_
            refine XS.goto X419.here hx rfl (pc0 := 106) (pc' := 50) rfl (hb hby d1_106) (by decide) (by decide) ?_
            exact k)
          have F422 := (V416.other W419 ne17)
          exact ih400 (T419, _, _, (wc0 + (-1 : Int32)), .val (.long ((wb0 ((wc0 - s0)).toNatClampNeg) + v0)), .second, (fun i => if i = (wc0).toNatClampNeg then ((wb0 ((wc0 - s0)).toNatClampNeg) + v0) else wb0 i), (fun i => if i = (wc0).toNatClampNeg then (1 : Int32) else wt0 i)) ⟨(own_mle hcap hs0 hc1_0 hc407), (own_stY hcap hs0 hc1_0 hc407 (own_gt.mp hc398) hL0 (own_gt.mp hc415)), (Or.inr ⟨_, rfl, rfl⟩), X419, e419, N419, (((Kl400.wr W416 (Or.inl (List.mem_of_getElem? (i := 0) rfl))).wr W419 (Or.inl (List.mem_of_getElem? (i := 1) rfl)))), F422, V419, fun t k => pre421 t k⟩ (own_mlt hcap hs0 hc1_0 hc407)
        · have pre423 : ∀ t, Steps p.tables e below (T400.setTop (mkF m 50 (Lq1n3 a1 a2 p3 b2 b5 (kI 0) (kI (wc0 + (-1 : Int32))) (kJ ((wb0 ((wc0 - s0)).toNatClampNeg) + v0)) kD kU kU) [])) t → Steps p.tables e below (s₁.setTop (entryFrame m #[(.ref a1), (.ref a2), (.int p3)] 12)) t := fun t k => pre414 t (by
            show Steps _ _ _ (T400.setTop (mkF m 84 (Lq1n3 a1 a2 p3 b2 b5 (kI 0) (kI wc0) (kJ ((wb0 ((wc0 - s0)).toNatClampNeg) + v0)) kD kU kU) [(.int (lcmpW ((wb0 ((wc0 - s0)).toNatClampNeg) + v0) (wb0 (wc0).toNatClampNeg)))])) _
            refine XS.ifYes X400.here hx rfl (pc0 := 84) (pc' := 103) rfl (hb hby d1_84) rfl ((if0 _ _).trans (flt hc415).2.2.2) (by decide) (by decide) ?_
            refine XS.iinc X400.here hx rfl (hb hby d1_103) rfl (l' := (Lq1n3 a1 a2 p3 b2 b5 (kI 0) (kI (wc0 + (-1 : Int32))) (kJ ((wb0 ((wc0 - s0)).toNatClampNeg) + v0)) kD kU kU)) rfl ?_
            refine XS.goto X400.here hx rfl (pc0 := 106) (pc' := 50) rfl (hb hby d1_106) (by decide) (by decide) ?_
            exact k)
          exact ih400 (T400, _, _, (wc0 + (-1 : Int32)), .val (.long ((wb0 ((wc0 - s0)).toNatClampNeg) + v0)), .second, wb0, wt0) ⟨(own_mle hcap hs0 hc1_0 hc407), (own_stN hcap hs0 hc1_0 hc407 hL0 (fun q => hc415 (own_gt.mpr q))), (Or.inr ⟨_, rfl, rfl⟩), X400, e400, N400, (Kl400), Lf400_0, Lf400_1, fun t k => pre423 t k⟩ (own_mlt hcap hs0 hc1_0 hc407)
    · have pre424 : ∀ t, Steps p.tables e below (T19.setTop (mkF m 109 (Lq1n3 a1 a2 p3 b2 b5 (kI 0) kU kU kU kU kU) [])) t → Steps p.tables e below (s₁.setTop (entryFrame m #[(.ref a1), (.ref a2), (.int p3)] 12)) t := fun t k => pre397 t (by
        show Steps _ _ _ (T19.setTop (mkF m 41 (Lq1n3 a1 a2 p3 b2 b5 (kI 0) kU kU kU kU kU) [(.int (lcmpW v0 (0 : Int64)))])) _
        refine XS.ifNo X19.here hx rfl (hb hby d1_41) rfl ((if0 _ _).trans (flt hc398).2.2.1) ?_
        refine XS.goto X19.here hx rfl (pc0 := 44) (pc' := 109) rfl (hb hby d1_44) (by decide) (by decide) ?_
        exact k)
      have F425 := ((F16.ext E11).other W19 ne10)
      have F426 := (V_b11.other W19 (Ne.symm ne18))
      exact jn22 (T19, _, _, .unset, .unset, .unset, (fun _ => 0), (fun _ => 0)) ⟨(own_itn (fun q => hc398 (own_gt.mpr q))), (Or.inl rfl), (Or.inl ⟨rfl, rfl⟩), X19, e19, N19, ((Keep.refl _ _)), F425, F426, fun t k => pre424 t k⟩
theorem d2_0 : decode method_3_code 0 = .ok (.iconst 0, 1) := by decide +kernel
theorem d2_1 : decode method_3_code 1 = .ok (.istore 4, 2) := by decide +kernel
theorem d2_3 : decode method_3_code 3 = .ok (.iload_n 0, 1) := by decide +kernel
theorem d2_4 : decode method_3_code 4 = .ok (.iconst 1, 1) := by decide +kernel
theorem d2_5 : decode method_3_code 5 = .ok (.iand, 1) := by decide +kernel
theorem d2_6 : decode method_3_code 6 = .ok (.ifCond .eq 9, 3) := by decide +kernel
theorem d2_9 : decode method_3_code 9 = .ok (.iload 4, 2) := by decide +kernel
theorem d2_11 : decode method_3_code 11 = .ok (.iload_n 1, 1) := by decide +kernel
theorem d2_12 : decode method_3_code 12 = .ok (.iadd, 1) := by decide +kernel
theorem d2_13 : decode method_3_code 13 = .ok (.istore 4, 2) := by decide +kernel
theorem d2_15 : decode method_3_code 15 = .ok (.iload_n 0, 1) := by decide +kernel
theorem d2_16 : decode method_3_code 16 = .ok (.iconst 2, 1) := by decide +kernel
theorem d2_17 : decode method_3_code 17 = .ok (.iand, 1) := by decide +kernel
theorem d2_18 : decode method_3_code 18 = .ok (.ifCond .eq 9, 3) := by decide +kernel
theorem d2_21 : decode method_3_code 21 = .ok (.iload 4, 2) := by decide +kernel
theorem d2_23 : decode method_3_code 23 = .ok (.iload_n 2, 1) := by decide +kernel
theorem d2_24 : decode method_3_code 24 = .ok (.iadd, 1) := by decide +kernel
theorem d2_25 : decode method_3_code 25 = .ok (.istore 4, 2) := by decide +kernel
theorem d2_27 : decode method_3_code 27 = .ok (.iload_n 0, 1) := by decide +kernel
theorem d2_28 : decode method_3_code 28 = .ok (.iconst 4, 1) := by decide +kernel
theorem d2_29 : decode method_3_code 29 = .ok (.iand, 1) := by decide +kernel
theorem d2_30 : decode method_3_code 30 = .ok (.ifCond .eq 9, 3) := by decide +kernel
theorem d2_33 : decode method_3_code 33 = .ok (.iload 4, 2) := by decide +kernel
theorem d2_35 : decode method_3_code 35 = .ok (.iload_n 3, 1) := by decide +kernel
theorem d2_36 : decode method_3_code 36 = .ok (.iadd, 1) := by decide +kernel
theorem d2_37 : decode method_3_code 37 = .ok (.istore 4, 2) := by decide +kernel
theorem d2_39 : decode method_3_code 39 = .ok (.iload 4, 2) := by decide +kernel
theorem d2_41 : decode method_3_code 41 = .ok (.ireturn, 1) := by decide +kernel
theorem pn_1 : plainName "com/example/hindsight/hindsight/solvers/KnapsackHeaviestPinLaw" = true := by first | (simp [plainName, overriddenIn]; done) | decide +kernel
def m2_2_0 (p1 : Int32) (p2 : Int32) : Int32 := (if (p1 &&& (1 : Int32)) = (0 : Int32) then (0 : Int32) else ((0 : Int32) + p2))
def m2_5_0 (p1 : Int32) (p2 : Int32) (p3 : Int32) : Int32 := (if (p1 &&& (2 : Int32)) = (0 : Int32) then (m2_2_0 p1 p2) else ((m2_2_0 p1 p2) + p3))
def m2_8_0 (p1 : Int32) (p2 : Int32) (p3 : Int32) (p4 : Int32) : Int32 := (if (p1 &&& (4 : Int32)) = (0 : Int32) then (m2_5_0 p1 p2 p3) else ((m2_5_0 p1 p2 p3) + p4))
def f2 (p1 : Int32) (p2 : Int32) (p3 : Int32) (p4 : Int32) : Int32 := (m2_8_0 p1 p2 p3 p4)
theorem ef_2 (m : MethodId) (x0 : Int32) (x1 : Int32) (x2 : Int32) (x3 : Int32) : entryFrame m #[(.int x0), (.int x1), (.int x2), (.int x3)] 5 = mkF m 0 #[.val (.int x0), .val (.int x1), .val (.int x2), .val (.int x3), .unset] [] := by first | (simp [entryFrame, mkF, argsToLocals, Value.category]; done) | rfl
def Q2 (Z : State) (p1 : Int32) (p2 : Int32) (p3 : Int32) (p4 : Int32) (h0 : Heap) (n0 : Nat) (v : Option Value) (h : Heap) (L : List Loc) : Prop := v = some (.int (f2 p1 p2 p3 p4)) ∧ Fr n0 L ∧ h = h0
set_option maxRecDepth 65536 in
set_option maxHeartbeats 40000000 in
theorem rm2 (l : Launch) (Z : State) (a0 : Array Value) (hw : ∀ d ∈ tables_1, d.before a0 Z = true) (ws : List Jvm.Cond) (p1 : Int32) (p2 : Int32) (p3 : Int32) (p4 : Int32) (h0 : Heap) (n0 : Nat) (Z0 : n0 ≤ h0.size) :
    MetFree l (⟨"com/example/hindsight/hindsight/solvers/KnapsackHeaviestPinLaw", "size", "(IIII)I"⟩ : MethodName) (head1 (Jvm.Cond.code (⟨"com/example/hindsight/hindsight/solvers/KnapsackHeaviestPinLaw", "size", "(IIII)I"⟩ : MethodName) method_3_code 5 (some .int) :: ws) ({ frames := 0, cells := 0, slots := 0, locals := 0 } : Room)) (fun a U => a = #[(.int p1), (.int p2), (.int p3), (.int p4)] ∧ Z.Warmed39 U.vm ∧ U.heap = h0) (fun _ _ _ _ _ => True) (fun _ U o U' => ∃ v L, o = .returned v ∧ Q2 Z p1 p2 p3 p4 h0 n0 v U'.heap L ∧ FrameEnd U o U' L ({ frames := 0, cells := 0, slots := 0, locals := 0 } : Room).cells ({ frames := 0, cells := 0, slots := 0, locals := 0 } : Room).slots) := by
  refine MetFree.of_bodySF (plainFor_of_name pn_1) hisR ?_
  intro p e s m args below meth c s₁ Bd hml0 hP hK
  obtain ⟨rfl, hZ, hh⟩ := hP
  have hx := Bd.exec
  have hlk : meth.locks = false := by first | exact BodyLoose.notSynchronized Bd | exact Body.notSynchronized Bd
  have hby := Bd.bytes
  have hml : c.maxLocals = 5 := hml0
  have hown : s.vm.findClass "com/example/hindsight/hindsight/solvers/KnapsackHeaviestPinLaw" = some m.cls := findClass_of_methodNamed Bd.named
  have hnm := (name_of_methodNamed Bd.named Bd.method).1
  have X0 : Stand p l e ({ frames := 0, cells := 0, slots := 0, locals := 0 } : Room) s m #[(.int p1), (.int p2), (.int p3), (.int p4)] below meth c s₁ [] 0 0 := Stand.of_body Bd
  have e0 : s₁.heap = h0 := by rw [← hh, Bd.state]; rfl
  have N0 := Fr.nil n0
  have pre0 : ∀ t, Steps p.tables e below (s₁.setTop (mkF m 0 #[.val (.int p1), .val (.int p2), .val (.int p3), .val (.int p4), .unset] [])) t → Steps p.tables e below (s₁.setTop (entryFrame m #[(.int p1), (.int p2), (.int p3), (.int p4)] 5)) t := fun t k => castTop (ef_2 m p1 p2 p3 p4) k
  have pre1 : ∀ t, Steps p.tables e below (s₁.setTop (mkF m 6 #[.val (.int p1), .val (.int p2), .val (.int p3), .val (.int p4), .val (.int (0 : Int32))] [(.int (p1 &&& (1 : Int32)))])) t → Steps p.tables e below (s₁.setTop (entryFrame m #[(.int p1), (.int p2), (.int p3), (.int p4)] 5)) t := fun t k => pre0 t (by
    show Steps p.tables e below (s₁.setTop (mkF m 0 #[.val (.int p1), .val (.int p2), .val (.int p3), .val (.int p4), .unset] [])) _
    refine XS.iconst X0.here hx rfl (hb hby d2_0) ?_
    show Steps p.tables e below (s₁.setTop (mkF m 1 #[.val (.int p1), .val (.int p2), .val (.int p3), .val (.int p4), .unset] [(.int (0 : Int32))])) _
    refine XS.istore X0.here hx rfl (hb hby d2_1) rfl (l' := #[.val (.int p1), .val (.int p2), .val (.int p3), .val (.int p4), .val (.int (0 : Int32))]) rfl ?_
    show Steps p.tables e below (s₁.setTop (mkF m 3 #[.val (.int p1), .val (.int p2), .val (.int p3), .val (.int p4), .val (.int (0 : Int32))] [])) _
    refine XS.iloadN X0.here hx rfl (hb hby d2_3) rfl ?_
    show Steps p.tables e below (s₁.setTop (mkF m 4 #[.val (.int p1), .val (.int p2), .val (.int p3), .val (.int p4), .val (.int (0 : Int32))] [(.int p1)])) _
    refine XS.iconst X0.here hx rfl (hb hby d2_4) ?_
    show Steps p.tables e below (s₁.setTop (mkF m 5 #[.val (.int p1), .val (.int p2), .val (.int p3), .val (.int p4), .val (.int (0 : Int32))] [(.int (1 : Int32)), (.int p1)])) _
    refine XS.iand X0.here hx rfl (hb hby d2_5) rfl ?_
    exact k)
  have pre2 : ∀ t, Steps p.tables e below (s₁.setTop (mkF m 15 #[.val (.int p1), .val (.int p2), .val (.int p3), .val (.int p4), .val (.int (m2_2_0 p1 p2))] [])) t → Steps p.tables e below (s₁.setTop (entryFrame m #[(.int p1), (.int p2), (.int p3), (.int p4)] 5)) t := by
    intro t k
    by_cases hc3 : (p1 &&& (1 : Int32)) = (0 : Int32)
    · rw [show (m2_2_0 p1 p2) = (0 : Int32) from by first | (rw [m2_2_0, if_pos hc3]; done) | (simp only [m2_2_0, if_pos hc3]; done) | rfl] at k
      refine pre1 t ?_
      show Steps p.tables e below (s₁.setTop (mkF m 6 #[.val (.int p1), .val (.int p2), .val (.int p3), .val (.int p4), .val (.int (0 : Int32))] [(.int (p1 &&& (1 : Int32)))])) _
      refine XS.ifYes X0.here hx rfl (pc0 := 6) (pc' := 15) rfl (hb hby d2_6) rfl ((if0 _ _).trans (teq hc3).1) (by decide) (by decide) ?_
      exact k
    · rw [show (m2_2_0 p1 p2) = ((0 : Int32) + p2) from by first | (rw [m2_2_0, if_neg hc3]; done) | (simp only [m2_2_0, if_neg hc3]; done) | rfl] at k
      refine pre1 t ?_
      show Steps p.tables e below (s₁.setTop (mkF m 6 #[.val (.int p1), .val (.int p2), .val (.int p3), .val (.int p4), .val (.int (0 : Int32))] [(.int (p1 &&& (1 : Int32)))])) _
      refine XS.ifNo X0.here hx rfl (hb hby d2_6) rfl ((if0 _ _).trans (feq hc3).1) ?_
      show Steps p.tables e below (s₁.setTop (mkF m 9 #[.val (.int p1), .val (.int p2), .val (.int p3), .val (.int p4), .val (.int (0 : Int32))] [])) _
      refine XS.iload X0.here hx rfl (hb hby d2_9) rfl ?_
      show Steps p.tables e below (s₁.setTop (mkF m 11 #[.val (.int p1), .val (.int p2), .val (.int p3), .val (.int p4), .val (.int (0 : Int32))] [(.int (0 : Int32))])) _
      refine XS.iloadN X0.here hx rfl (hb hby d2_11) rfl ?_
      show Steps p.tables e below (s₁.setTop (mkF m 12 #[.val (.int p1), .val (.int p2), .val (.int p3), .val (.int p4), .val (.int (0 : Int32))] [(.int p2), (.int (0 : Int32))])) _
      refine XS.iadd X0.here hx rfl (hb hby d2_12) rfl ?_
      show Steps p.tables e below (s₁.setTop (mkF m 13 #[.val (.int p1), .val (.int p2), .val (.int p3), .val (.int p4), .val (.int (0 : Int32))] [(.int ((0 : Int32) + p2))])) _
      refine XS.istore X0.here hx rfl (hb hby d2_13) rfl (l' := #[.val (.int p1), .val (.int p2), .val (.int p3), .val (.int p4), .val (.int ((0 : Int32) + p2))]) rfl ?_
      exact k
  have pre4 : ∀ t, Steps p.tables e below (s₁.setTop (mkF m 18 #[.val (.int p1), .val (.int p2), .val (.int p3), .val (.int p4), .val (.int (m2_2_0 p1 p2))] [(.int (p1 &&& (2 : Int32)))])) t → Steps p.tables e below (s₁.setTop (entryFrame m #[(.int p1), (.int p2), (.int p3), (.int p4)] 5)) t := fun t k => pre2 t (by
    show Steps p.tables e below (s₁.setTop (mkF m 15 #[.val (.int p1), .val (.int p2), .val (.int p3), .val (.int p4), .val (.int (m2_2_0 p1 p2))] [])) _
    refine XS.iloadN X0.here hx rfl (hb hby d2_15) rfl ?_
    show Steps p.tables e below (s₁.setTop (mkF m 16 #[.val (.int p1), .val (.int p2), .val (.int p3), .val (.int p4), .val (.int (m2_2_0 p1 p2))] [(.int p1)])) _
    refine XS.iconst X0.here hx rfl (hb hby d2_16) ?_
    show Steps p.tables e below (s₁.setTop (mkF m 17 #[.val (.int p1), .val (.int p2), .val (.int p3), .val (.int p4), .val (.int (m2_2_0 p1 p2))] [(.int (2 : Int32)), (.int p1)])) _
    refine XS.iand X0.here hx rfl (hb hby d2_17) rfl ?_
    exact k)
  have pre5 : ∀ t, Steps p.tables e below (s₁.setTop (mkF m 27 #[.val (.int p1), .val (.int p2), .val (.int p3), .val (.int p4), .val (.int (m2_5_0 p1 p2 p3))] [])) t → Steps p.tables e below (s₁.setTop (entryFrame m #[(.int p1), (.int p2), (.int p3), (.int p4)] 5)) t := by
    intro t k
    by_cases hc6 : (p1 &&& (2 : Int32)) = (0 : Int32)
    · rw [show (m2_5_0 p1 p2 p3) = (m2_2_0 p1 p2) from by first | (rw [m2_5_0, if_pos hc6]; done) | (simp only [m2_5_0, if_pos hc6]; done) | rfl] at k
      refine pre4 t ?_
      show Steps p.tables e below (s₁.setTop (mkF m 18 #[.val (.int p1), .val (.int p2), .val (.int p3), .val (.int p4), .val (.int (m2_2_0 p1 p2))] [(.int (p1 &&& (2 : Int32)))])) _
      refine XS.ifYes X0.here hx rfl (pc0 := 18) (pc' := 27) rfl (hb hby d2_18) rfl ((if0 _ _).trans (teq hc6).1) (by decide) (by decide) ?_
      exact k
    · rw [show (m2_5_0 p1 p2 p3) = ((m2_2_0 p1 p2) + p3) from by first | (rw [m2_5_0, if_neg hc6]; done) | (simp only [m2_5_0, if_neg hc6]; done) | rfl] at k
      refine pre4 t ?_
      show Steps p.tables e below (s₁.setTop (mkF m 18 #[.val (.int p1), .val (.int p2), .val (.int p3), .val (.int p4), .val (.int (m2_2_0 p1 p2))] [(.int (p1 &&& (2 : Int32)))])) _
      refine XS.ifNo X0.here hx rfl (hb hby d2_18) rfl ((if0 _ _).trans (feq hc6).1) ?_
      show Steps p.tables e below (s₁.setTop (mkF m 21 #[.val (.int p1), .val (.int p2), .val (.int p3), .val (.int p4), .val (.int (m2_2_0 p1 p2))] [])) _
      refine XS.iload X0.here hx rfl (hb hby d2_21) rfl ?_
      show Steps p.tables e below (s₁.setTop (mkF m 23 #[.val (.int p1), .val (.int p2), .val (.int p3), .val (.int p4), .val (.int (m2_2_0 p1 p2))] [(.int (m2_2_0 p1 p2))])) _
      refine XS.iloadN X0.here hx rfl (hb hby d2_23) rfl ?_
      show Steps p.tables e below (s₁.setTop (mkF m 24 #[.val (.int p1), .val (.int p2), .val (.int p3), .val (.int p4), .val (.int (m2_2_0 p1 p2))] [(.int p3), (.int (m2_2_0 p1 p2))])) _
      refine XS.iadd X0.here hx rfl (hb hby d2_24) rfl ?_
      show Steps p.tables e below (s₁.setTop (mkF m 25 #[.val (.int p1), .val (.int p2), .val (.int p3), .val (.int p4), .val (.int (m2_2_0 p1 p2))] [(.int ((m2_2_0 p1 p2) + p3))])) _
      refine XS.istore X0.here hx rfl (hb hby d2_25) rfl (l' := #[.val (.int p1), .val (.int p2), .val (.int p3), .val (.int p4), .val (.int ((m2_2_0 p1 p2) + p3))]) rfl ?_
      exact k
  have pre7 : ∀ t, Steps p.tables e below (s₁.setTop (mkF m 30 #[.val (.int p1), .val (.int p2), .val (.int p3), .val (.int p4), .val (.int (m2_5_0 p1 p2 p3))] [(.int (p1 &&& (4 : Int32)))])) t → Steps p.tables e below (s₁.setTop (entryFrame m #[(.int p1), (.int p2), (.int p3), (.int p4)] 5)) t := fun t k => pre5 t (by
    show Steps p.tables e below (s₁.setTop (mkF m 27 #[.val (.int p1), .val (.int p2), .val (.int p3), .val (.int p4), .val (.int (m2_5_0 p1 p2 p3))] [])) _
    refine XS.iloadN X0.here hx rfl (hb hby d2_27) rfl ?_
    show Steps p.tables e below (s₁.setTop (mkF m 28 #[.val (.int p1), .val (.int p2), .val (.int p3), .val (.int p4), .val (.int (m2_5_0 p1 p2 p3))] [(.int p1)])) _
    refine XS.iconst X0.here hx rfl (hb hby d2_28) ?_
    show Steps p.tables e below (s₁.setTop (mkF m 29 #[.val (.int p1), .val (.int p2), .val (.int p3), .val (.int p4), .val (.int (m2_5_0 p1 p2 p3))] [(.int (4 : Int32)), (.int p1)])) _
    refine XS.iand X0.here hx rfl (hb hby d2_29) rfl ?_
    exact k)
  have pre8 : ∀ t, Steps p.tables e below (s₁.setTop (mkF m 39 #[.val (.int p1), .val (.int p2), .val (.int p3), .val (.int p4), .val (.int (m2_8_0 p1 p2 p3 p4))] [])) t → Steps p.tables e below (s₁.setTop (entryFrame m #[(.int p1), (.int p2), (.int p3), (.int p4)] 5)) t := by
    intro t k
    by_cases hc9 : (p1 &&& (4 : Int32)) = (0 : Int32)
    · rw [show (m2_8_0 p1 p2 p3 p4) = (m2_5_0 p1 p2 p3) from by first | (rw [m2_8_0, if_pos hc9]; done) | (simp only [m2_8_0, if_pos hc9]; done) | rfl] at k
      refine pre7 t ?_
      show Steps p.tables e below (s₁.setTop (mkF m 30 #[.val (.int p1), .val (.int p2), .val (.int p3), .val (.int p4), .val (.int (m2_5_0 p1 p2 p3))] [(.int (p1 &&& (4 : Int32)))])) _
      refine XS.ifYes X0.here hx rfl (pc0 := 30) (pc' := 39) rfl (hb hby d2_30) rfl ((if0 _ _).trans (teq hc9).1) (by decide) (by decide) ?_
      exact k
    · rw [show (m2_8_0 p1 p2 p3 p4) = ((m2_5_0 p1 p2 p3) + p4) from by first | (rw [m2_8_0, if_neg hc9]; done) | (simp only [m2_8_0, if_neg hc9]; done) | rfl] at k
      refine pre7 t ?_
      show Steps p.tables e below (s₁.setTop (mkF m 30 #[.val (.int p1), .val (.int p2), .val (.int p3), .val (.int p4), .val (.int (m2_5_0 p1 p2 p3))] [(.int (p1 &&& (4 : Int32)))])) _
      refine XS.ifNo X0.here hx rfl (hb hby d2_30) rfl ((if0 _ _).trans (feq hc9).1) ?_
      show Steps p.tables e below (s₁.setTop (mkF m 33 #[.val (.int p1), .val (.int p2), .val (.int p3), .val (.int p4), .val (.int (m2_5_0 p1 p2 p3))] [])) _
      refine XS.iload X0.here hx rfl (hb hby d2_33) rfl ?_
      show Steps p.tables e below (s₁.setTop (mkF m 35 #[.val (.int p1), .val (.int p2), .val (.int p3), .val (.int p4), .val (.int (m2_5_0 p1 p2 p3))] [(.int (m2_5_0 p1 p2 p3))])) _
      refine XS.iloadN X0.here hx rfl (hb hby d2_35) rfl ?_
      show Steps p.tables e below (s₁.setTop (mkF m 36 #[.val (.int p1), .val (.int p2), .val (.int p3), .val (.int p4), .val (.int (m2_5_0 p1 p2 p3))] [(.int p4), (.int (m2_5_0 p1 p2 p3))])) _
      refine XS.iadd X0.here hx rfl (hb hby d2_36) rfl ?_
      show Steps p.tables e below (s₁.setTop (mkF m 37 #[.val (.int p1), .val (.int p2), .val (.int p3), .val (.int p4), .val (.int (m2_5_0 p1 p2 p3))] [(.int ((m2_5_0 p1 p2 p3) + p4))])) _
      refine XS.istore X0.here hx rfl (hb hby d2_37) rfl (l' := #[.val (.int p1), .val (.int p2), .val (.int p3), .val (.int p4), .val (.int ((m2_5_0 p1 p2 p3) + p4))]) rfl ?_
      exact k
  obtain ⟨fs, hr, hrun, hended, hW, hsame⟩ := X0.leave (v := some (.int (m2_8_0 p1 p2 p3 p4))) (fun h => by rw [Bd.returns] at h; cases h) hlk
  refine ⟨_, _, pre8 _ ?_, hrun, hended, _, _, rfl, ?_, ⟨_, rfl⟩, hW, hsame.mono (by decide) (by decide)⟩
  · show Steps p.tables e below (s₁.setTop (mkF m 39 #[.val (.int p1), .val (.int p2), .val (.int p3), .val (.int p4), .val (.int (m2_8_0 p1 p2 p3 p4))] [])) _
    refine XS.iload X0.here hx rfl (hb hby d2_39) rfl ?_
    show Steps p.tables e below (s₁.setTop (mkF m 41 #[.val (.int p1), .val (.int p2), .val (.int p3), .val (.int p4), .val (.int (m2_8_0 p1 p2 p3 p4))] [(.int (m2_8_0 p1 p2 p3 p4))])) _
    exact retI X0 hx Bd.returns (hb hby d2_41) hr
  · show Q2 Z p1 p2 p3 p4 h0 n0 _ s₁.heap _
    rw [e0]
    exact ⟨by rw [show (f2 p1 p2 p3 p4) = (m2_8_0 p1 p2 p3 p4) from by first | (rw [f2]; done) | (simp only [f2]; done) | rfl], N0, rfl⟩
theorem d4_0 : decode method_4_code 0 = .ok (.lconst 0, 1) := by decide +kernel
theorem d4_1 : decode method_4_code 1 = .ok (.lstore 7, 2) := by decide +kernel
theorem d4_3 : decode method_4_code 3 = .ok (.iload_n 0, 1) := by decide +kernel
theorem d4_4 : decode method_4_code 4 = .ok (.iconst 1, 1) := by decide +kernel
theorem d4_5 : decode method_4_code 5 = .ok (.iand, 1) := by decide +kernel
theorem d4_6 : decode method_4_code 6 = .ok (.ifCond .eq 9, 3) := by decide +kernel
theorem d4_9 : decode method_4_code 9 = .ok (.lload 7, 2) := by decide +kernel
theorem d4_11 : decode method_4_code 11 = .ok (.lload_n 1, 1) := by decide +kernel
theorem d4_12 : decode method_4_code 12 = .ok (.ladd, 1) := by decide +kernel
theorem d4_13 : decode method_4_code 13 = .ok (.lstore 7, 2) := by decide +kernel
theorem d4_15 : decode method_4_code 15 = .ok (.iload_n 0, 1) := by decide +kernel
theorem d4_16 : decode method_4_code 16 = .ok (.iconst 2, 1) := by decide +kernel
theorem d4_17 : decode method_4_code 17 = .ok (.iand, 1) := by decide +kernel
theorem d4_18 : decode method_4_code 18 = .ok (.ifCond .eq 9, 3) := by decide +kernel
theorem d4_21 : decode method_4_code 21 = .ok (.lload 7, 2) := by decide +kernel
theorem d4_23 : decode method_4_code 23 = .ok (.lload_n 3, 1) := by decide +kernel
theorem d4_24 : decode method_4_code 24 = .ok (.ladd, 1) := by decide +kernel
theorem d4_25 : decode method_4_code 25 = .ok (.lstore 7, 2) := by decide +kernel
theorem d4_27 : decode method_4_code 27 = .ok (.iload_n 0, 1) := by decide +kernel
theorem d4_28 : decode method_4_code 28 = .ok (.iconst 4, 1) := by decide +kernel
theorem d4_29 : decode method_4_code 29 = .ok (.iand, 1) := by decide +kernel
theorem d4_30 : decode method_4_code 30 = .ok (.ifCond .eq 10, 3) := by decide +kernel
theorem d4_33 : decode method_4_code 33 = .ok (.lload 7, 2) := by decide +kernel
theorem d4_35 : decode method_4_code 35 = .ok (.lload 5, 2) := by decide +kernel
theorem d4_37 : decode method_4_code 37 = .ok (.ladd, 1) := by decide +kernel
theorem d4_38 : decode method_4_code 38 = .ok (.lstore 7, 2) := by decide +kernel
theorem d4_40 : decode method_4_code 40 = .ok (.lload 7, 2) := by decide +kernel
theorem d4_42 : decode method_4_code 42 = .ok (.lreturn, 1) := by decide +kernel
def m4_2_0 (p1 : Int32) (q2 : Int64) : Int64 := (if (p1 &&& (1 : Int32)) = (0 : Int32) then (0 : Int64) else ((0 : Int64) + q2))
def m4_5_0 (p1 : Int32) (q2 : Int64) (q3 : Int64) : Int64 := (if (p1 &&& (2 : Int32)) = (0 : Int32) then (m4_2_0 p1 q2) else ((m4_2_0 p1 q2) + q3))
def m4_8_0 (p1 : Int32) (q2 : Int64) (q3 : Int64) (q4 : Int64) : Int64 := (if (p1 &&& (4 : Int32)) = (0 : Int32) then (m4_5_0 p1 q2 q3) else ((m4_5_0 p1 q2 q3) + q4))
def f4 (p1 : Int32) (q2 : Int64) (q3 : Int64) (q4 : Int64) : Int64 := (m4_8_0 p1 q2 q3 q4)
theorem ef_4 (m : MethodId) (x0 : Int32) (x1 : Int64) (x2 : Int64) (x3 : Int64) : entryFrame m #[(.int x0), (.long x1), (.long x2), (.long x3)] 9 = mkF m 0 #[.val (.int x0), .val (.long x1), .second, .val (.long x2), .second, .val (.long x3), .second, .unset, .unset] [] := by first | (simp [entryFrame, mkF, argsToLocals, Value.category]; done) | rfl
def Q4 (Z : State) (p1 : Int32) (q2 : Int64) (q3 : Int64) (q4 : Int64) (h0 : Heap) (n0 : Nat) (v : Option Value) (h : Heap) (L : List Loc) : Prop := v = some (.long (f4 p1 q2 q3 q4)) ∧ Fr n0 L ∧ h = h0
set_option maxRecDepth 65536 in
set_option maxHeartbeats 40000000 in
theorem rm4 (l : Launch) (Z : State) (a0 : Array Value) (hw : ∀ d ∈ tables_1, d.before a0 Z = true) (ws : List Jvm.Cond) (p1 : Int32) (q2 : Int64) (q3 : Int64) (q4 : Int64) (h0 : Heap) (n0 : Nat) (Z0 : n0 ≤ h0.size) :
    MetFree l (⟨"com/example/hindsight/hindsight/solvers/KnapsackHeaviestPinLaw", "weight", "(IJJJ)J"⟩ : MethodName) (head1 (Jvm.Cond.code (⟨"com/example/hindsight/hindsight/solvers/KnapsackHeaviestPinLaw", "weight", "(IJJJ)J"⟩ : MethodName) method_4_code 9 (some .long) :: ws) ({ frames := 0, cells := 0, slots := 0, locals := 0 } : Room)) (fun a U => a = #[(.int p1), (.long q2), (.long q3), (.long q4)] ∧ Z.Warmed39 U.vm ∧ U.heap = h0) (fun _ _ _ _ _ => True) (fun _ U o U' => ∃ v L, o = .returned v ∧ Q4 Z p1 q2 q3 q4 h0 n0 v U'.heap L ∧ FrameEnd U o U' L ({ frames := 0, cells := 0, slots := 0, locals := 0 } : Room).cells ({ frames := 0, cells := 0, slots := 0, locals := 0 } : Room).slots) := by
  refine MetFree.of_bodySF (plainFor_of_name pn_1) hisR ?_
  intro p e s m args below meth c s₁ Bd hml0 hP hK
  obtain ⟨rfl, hZ, hh⟩ := hP
  have hx := Bd.exec
  have hlk : meth.locks = false := by first | exact BodyLoose.notSynchronized Bd | exact Body.notSynchronized Bd
  have hby := Bd.bytes
  have hml : c.maxLocals = 9 := hml0
  have hown : s.vm.findClass "com/example/hindsight/hindsight/solvers/KnapsackHeaviestPinLaw" = some m.cls := findClass_of_methodNamed Bd.named
  have hnm := (name_of_methodNamed Bd.named Bd.method).1
  have X0 : Stand p l e ({ frames := 0, cells := 0, slots := 0, locals := 0 } : Room) s m #[(.int p1), (.long q2), (.long q3), (.long q4)] below meth c s₁ [] 0 0 := Stand.of_body Bd
  have e0 : s₁.heap = h0 := by rw [← hh, Bd.state]; rfl
  have N0 := Fr.nil n0
  have pre0 : ∀ t, Steps p.tables e below (s₁.setTop (mkF m 0 #[.val (.int p1), .val (.long q2), .second, .val (.long q3), .second, .val (.long q4), .second, .unset, .unset] [])) t → Steps p.tables e below (s₁.setTop (entryFrame m #[(.int p1), (.long q2), (.long q3), (.long q4)] 9)) t := fun t k => castTop (ef_4 m p1 q2 q3 q4) k
  have pre1 : ∀ t, Steps p.tables e below (s₁.setTop (mkF m 6 #[.val (.int p1), .val (.long q2), .second, .val (.long q3), .second, .val (.long q4), .second, .val (.long (0 : Int64)), .second] [(.int (p1 &&& (1 : Int32)))])) t → Steps p.tables e below (s₁.setTop (entryFrame m #[(.int p1), (.long q2), (.long q3), (.long q4)] 9)) t := fun t k => pre0 t (by
    show Steps p.tables e below (s₁.setTop (mkF m 0 #[.val (.int p1), .val (.long q2), .second, .val (.long q3), .second, .val (.long q4), .second, .unset, .unset] [])) _
    refine XS.lconst X0.here hx rfl (hb hby d4_0) ?_
    show Steps p.tables e below (s₁.setTop (mkF m 1 #[.val (.int p1), .val (.long q2), .second, .val (.long q3), .second, .val (.long q4), .second, .unset, .unset] [(.long (0 : Int64))])) _
    refine XS.lstore X0.here hx rfl (hb hby d4_1) rfl (l' := #[.val (.int p1), .val (.long q2), .second, .val (.long q3), .second, .val (.long q4), .second, .val (.long (0 : Int64)), .second]) rfl ?_
    show Steps p.tables e below (s₁.setTop (mkF m 3 #[.val (.int p1), .val (.long q2), .second, .val (.long q3), .second, .val (.long q4), .second, .val (.long (0 : Int64)), .second] [])) _
    refine XS.iloadN X0.here hx rfl (hb hby d4_3) rfl ?_
    show Steps p.tables e below (s₁.setTop (mkF m 4 #[.val (.int p1), .val (.long q2), .second, .val (.long q3), .second, .val (.long q4), .second, .val (.long (0 : Int64)), .second] [(.int p1)])) _
    refine XS.iconst X0.here hx rfl (hb hby d4_4) ?_
    show Steps p.tables e below (s₁.setTop (mkF m 5 #[.val (.int p1), .val (.long q2), .second, .val (.long q3), .second, .val (.long q4), .second, .val (.long (0 : Int64)), .second] [(.int (1 : Int32)), (.int p1)])) _
    refine XS.iand X0.here hx rfl (hb hby d4_5) rfl ?_
    exact k)
  have pre2 : ∀ t, Steps p.tables e below (s₁.setTop (mkF m 15 #[.val (.int p1), .val (.long q2), .second, .val (.long q3), .second, .val (.long q4), .second, .val (.long (m4_2_0 p1 q2)), .second] [])) t → Steps p.tables e below (s₁.setTop (entryFrame m #[(.int p1), (.long q2), (.long q3), (.long q4)] 9)) t := by
    intro t k
    by_cases hc3 : (p1 &&& (1 : Int32)) = (0 : Int32)
    · rw [show (m4_2_0 p1 q2) = (0 : Int64) from by first | (rw [m4_2_0, if_pos hc3]; done) | (simp only [m4_2_0, if_pos hc3]; done) | rfl] at k
      refine pre1 t ?_
      show Steps p.tables e below (s₁.setTop (mkF m 6 #[.val (.int p1), .val (.long q2), .second, .val (.long q3), .second, .val (.long q4), .second, .val (.long (0 : Int64)), .second] [(.int (p1 &&& (1 : Int32)))])) _
      refine XS.ifYes X0.here hx rfl (pc0 := 6) (pc' := 15) rfl (hb hby d4_6) rfl ((if0 _ _).trans (teq hc3).1) (by decide) (by decide) ?_
      exact k
    · rw [show (m4_2_0 p1 q2) = ((0 : Int64) + q2) from by first | (rw [m4_2_0, if_neg hc3]; done) | (simp only [m4_2_0, if_neg hc3]; done) | rfl] at k
      refine pre1 t ?_
      show Steps p.tables e below (s₁.setTop (mkF m 6 #[.val (.int p1), .val (.long q2), .second, .val (.long q3), .second, .val (.long q4), .second, .val (.long (0 : Int64)), .second] [(.int (p1 &&& (1 : Int32)))])) _
      refine XS.ifNo X0.here hx rfl (hb hby d4_6) rfl ((if0 _ _).trans (feq hc3).1) ?_
      show Steps p.tables e below (s₁.setTop (mkF m 9 #[.val (.int p1), .val (.long q2), .second, .val (.long q3), .second, .val (.long q4), .second, .val (.long (0 : Int64)), .second] [])) _
      refine XS.lload X0.here hx rfl (hb hby d4_9) rfl ?_
      show Steps p.tables e below (s₁.setTop (mkF m 11 #[.val (.int p1), .val (.long q2), .second, .val (.long q3), .second, .val (.long q4), .second, .val (.long (0 : Int64)), .second] [(.long (0 : Int64))])) _
      refine XS.lloadN X0.here hx rfl (hb hby d4_11) rfl ?_
      show Steps p.tables e below (s₁.setTop (mkF m 12 #[.val (.int p1), .val (.long q2), .second, .val (.long q3), .second, .val (.long q4), .second, .val (.long (0 : Int64)), .second] [(.long q2), (.long (0 : Int64))])) _
      refine XS.ladd X0.here hx rfl (hb hby d4_12) rfl ?_
      show Steps p.tables e below (s₁.setTop (mkF m 13 #[.val (.int p1), .val (.long q2), .second, .val (.long q3), .second, .val (.long q4), .second, .val (.long (0 : Int64)), .second] [(.long ((0 : Int64) + q2))])) _
      refine XS.lstore X0.here hx rfl (hb hby d4_13) rfl (l' := #[.val (.int p1), .val (.long q2), .second, .val (.long q3), .second, .val (.long q4), .second, .val (.long ((0 : Int64) + q2)), .second]) rfl ?_
      exact k
  have pre4 : ∀ t, Steps p.tables e below (s₁.setTop (mkF m 18 #[.val (.int p1), .val (.long q2), .second, .val (.long q3), .second, .val (.long q4), .second, .val (.long (m4_2_0 p1 q2)), .second] [(.int (p1 &&& (2 : Int32)))])) t → Steps p.tables e below (s₁.setTop (entryFrame m #[(.int p1), (.long q2), (.long q3), (.long q4)] 9)) t := fun t k => pre2 t (by
    show Steps p.tables e below (s₁.setTop (mkF m 15 #[.val (.int p1), .val (.long q2), .second, .val (.long q3), .second, .val (.long q4), .second, .val (.long (m4_2_0 p1 q2)), .second] [])) _
    refine XS.iloadN X0.here hx rfl (hb hby d4_15) rfl ?_
    show Steps p.tables e below (s₁.setTop (mkF m 16 #[.val (.int p1), .val (.long q2), .second, .val (.long q3), .second, .val (.long q4), .second, .val (.long (m4_2_0 p1 q2)), .second] [(.int p1)])) _
    refine XS.iconst X0.here hx rfl (hb hby d4_16) ?_
    show Steps p.tables e below (s₁.setTop (mkF m 17 #[.val (.int p1), .val (.long q2), .second, .val (.long q3), .second, .val (.long q4), .second, .val (.long (m4_2_0 p1 q2)), .second] [(.int (2 : Int32)), (.int p1)])) _
    refine XS.iand X0.here hx rfl (hb hby d4_17) rfl ?_
    exact k)
  have pre5 : ∀ t, Steps p.tables e below (s₁.setTop (mkF m 27 #[.val (.int p1), .val (.long q2), .second, .val (.long q3), .second, .val (.long q4), .second, .val (.long (m4_5_0 p1 q2 q3)), .second] [])) t → Steps p.tables e below (s₁.setTop (entryFrame m #[(.int p1), (.long q2), (.long q3), (.long q4)] 9)) t := by
    intro t k
    by_cases hc6 : (p1 &&& (2 : Int32)) = (0 : Int32)
    · rw [show (m4_5_0 p1 q2 q3) = (m4_2_0 p1 q2) from by first | (rw [m4_5_0, if_pos hc6]; done) | (simp only [m4_5_0, if_pos hc6]; done) | rfl] at k
      refine pre4 t ?_
      show Steps p.tables e below (s₁.setTop (mkF m 18 #[.val (.int p1), .val (.long q2), .second, .val (.long q3), .second, .val (.long q4), .second, .val (.long (m4_2_0 p1 q2)), .second] [(.int (p1 &&& (2 : Int32)))])) _
      refine XS.ifYes X0.here hx rfl (pc0 := 18) (pc' := 27) rfl (hb hby d4_18) rfl ((if0 _ _).trans (teq hc6).1) (by decide) (by decide) ?_
      exact k
    · rw [show (m4_5_0 p1 q2 q3) = ((m4_2_0 p1 q2) + q3) from by first | (rw [m4_5_0, if_neg hc6]; done) | (simp only [m4_5_0, if_neg hc6]; done) | rfl] at k
      refine pre4 t ?_
      show Steps p.tables e below (s₁.setTop (mkF m 18 #[.val (.int p1), .val (.long q2), .second, .val (.long q3), .second, .val (.long q4), .second, .val (.long (m4_2_0 p1 q2)), .second] [(.int (p1 &&& (2 : Int32)))])) _
      refine XS.ifNo X0.here hx rfl (hb hby d4_18) rfl ((if0 _ _).trans (feq hc6).1) ?_
      show Steps p.tables e below (s₁.setTop (mkF m 21 #[.val (.int p1), .val (.long q2), .second, .val (.long q3), .second, .val (.long q4), .second, .val (.long (m4_2_0 p1 q2)), .second] [])) _
      refine XS.lload X0.here hx rfl (hb hby d4_21) rfl ?_
      show Steps p.tables e below (s₁.setTop (mkF m 23 #[.val (.int p1), .val (.long q2), .second, .val (.long q3), .second, .val (.long q4), .second, .val (.long (m4_2_0 p1 q2)), .second] [(.long (m4_2_0 p1 q2))])) _
      refine XS.lloadN X0.here hx rfl (hb hby d4_23) rfl ?_
      show Steps p.tables e below (s₁.setTop (mkF m 24 #[.val (.int p1), .val (.long q2), .second, .val (.long q3), .second, .val (.long q4), .second, .val (.long (m4_2_0 p1 q2)), .second] [(.long q3), (.long (m4_2_0 p1 q2))])) _
      refine XS.ladd X0.here hx rfl (hb hby d4_24) rfl ?_
      show Steps p.tables e below (s₁.setTop (mkF m 25 #[.val (.int p1), .val (.long q2), .second, .val (.long q3), .second, .val (.long q4), .second, .val (.long (m4_2_0 p1 q2)), .second] [(.long ((m4_2_0 p1 q2) + q3))])) _
      refine XS.lstore X0.here hx rfl (hb hby d4_25) rfl (l' := #[.val (.int p1), .val (.long q2), .second, .val (.long q3), .second, .val (.long q4), .second, .val (.long ((m4_2_0 p1 q2) + q3)), .second]) rfl ?_
      exact k
  have pre7 : ∀ t, Steps p.tables e below (s₁.setTop (mkF m 30 #[.val (.int p1), .val (.long q2), .second, .val (.long q3), .second, .val (.long q4), .second, .val (.long (m4_5_0 p1 q2 q3)), .second] [(.int (p1 &&& (4 : Int32)))])) t → Steps p.tables e below (s₁.setTop (entryFrame m #[(.int p1), (.long q2), (.long q3), (.long q4)] 9)) t := fun t k => pre5 t (by
    show Steps p.tables e below (s₁.setTop (mkF m 27 #[.val (.int p1), .val (.long q2), .second, .val (.long q3), .second, .val (.long q4), .second, .val (.long (m4_5_0 p1 q2 q3)), .second] [])) _
    refine XS.iloadN X0.here hx rfl (hb hby d4_27) rfl ?_
    show Steps p.tables e below (s₁.setTop (mkF m 28 #[.val (.int p1), .val (.long q2), .second, .val (.long q3), .second, .val (.long q4), .second, .val (.long (m4_5_0 p1 q2 q3)), .second] [(.int p1)])) _
    refine XS.iconst X0.here hx rfl (hb hby d4_28) ?_
    show Steps p.tables e below (s₁.setTop (mkF m 29 #[.val (.int p1), .val (.long q2), .second, .val (.long q3), .second, .val (.long q4), .second, .val (.long (m4_5_0 p1 q2 q3)), .second] [(.int (4 : Int32)), (.int p1)])) _
    refine XS.iand X0.here hx rfl (hb hby d4_29) rfl ?_
    exact k)
  have pre8 : ∀ t, Steps p.tables e below (s₁.setTop (mkF m 40 #[.val (.int p1), .val (.long q2), .second, .val (.long q3), .second, .val (.long q4), .second, .val (.long (m4_8_0 p1 q2 q3 q4)), .second] [])) t → Steps p.tables e below (s₁.setTop (entryFrame m #[(.int p1), (.long q2), (.long q3), (.long q4)] 9)) t := by
    intro t k
    by_cases hc9 : (p1 &&& (4 : Int32)) = (0 : Int32)
    · rw [show (m4_8_0 p1 q2 q3 q4) = (m4_5_0 p1 q2 q3) from by first | (rw [m4_8_0, if_pos hc9]; done) | (simp only [m4_8_0, if_pos hc9]; done) | rfl] at k
      refine pre7 t ?_
      show Steps p.tables e below (s₁.setTop (mkF m 30 #[.val (.int p1), .val (.long q2), .second, .val (.long q3), .second, .val (.long q4), .second, .val (.long (m4_5_0 p1 q2 q3)), .second] [(.int (p1 &&& (4 : Int32)))])) _
      refine XS.ifYes X0.here hx rfl (pc0 := 30) (pc' := 40) rfl (hb hby d4_30) rfl ((if0 _ _).trans (teq hc9).1) (by decide) (by decide) ?_
      exact k
    · rw [show (m4_8_0 p1 q2 q3 q4) = ((m4_5_0 p1 q2 q3) + q4) from by first | (rw [m4_8_0, if_neg hc9]; done) | (simp only [m4_8_0, if_neg hc9]; done) | rfl] at k
      refine pre7 t ?_
      show Steps p.tables e below (s₁.setTop (mkF m 30 #[.val (.int p1), .val (.long q2), .second, .val (.long q3), .second, .val (.long q4), .second, .val (.long (m4_5_0 p1 q2 q3)), .second] [(.int (p1 &&& (4 : Int32)))])) _
      refine XS.ifNo X0.here hx rfl (hb hby d4_30) rfl ((if0 _ _).trans (feq hc9).1) ?_
      show Steps p.tables e below (s₁.setTop (mkF m 33 #[.val (.int p1), .val (.long q2), .second, .val (.long q3), .second, .val (.long q4), .second, .val (.long (m4_5_0 p1 q2 q3)), .second] [])) _
      refine XS.lload X0.here hx rfl (hb hby d4_33) rfl ?_
      show Steps p.tables e below (s₁.setTop (mkF m 35 #[.val (.int p1), .val (.long q2), .second, .val (.long q3), .second, .val (.long q4), .second, .val (.long (m4_5_0 p1 q2 q3)), .second] [(.long (m4_5_0 p1 q2 q3))])) _
      refine XS.lload X0.here hx rfl (hb hby d4_35) rfl ?_
      show Steps p.tables e below (s₁.setTop (mkF m 37 #[.val (.int p1), .val (.long q2), .second, .val (.long q3), .second, .val (.long q4), .second, .val (.long (m4_5_0 p1 q2 q3)), .second] [(.long q4), (.long (m4_5_0 p1 q2 q3))])) _
      refine XS.ladd X0.here hx rfl (hb hby d4_37) rfl ?_
      show Steps p.tables e below (s₁.setTop (mkF m 38 #[.val (.int p1), .val (.long q2), .second, .val (.long q3), .second, .val (.long q4), .second, .val (.long (m4_5_0 p1 q2 q3)), .second] [(.long ((m4_5_0 p1 q2 q3) + q4))])) _
      refine XS.lstore X0.here hx rfl (hb hby d4_38) rfl (l' := #[.val (.int p1), .val (.long q2), .second, .val (.long q3), .second, .val (.long q4), .second, .val (.long ((m4_5_0 p1 q2 q3) + q4)), .second]) rfl ?_
      exact k
  obtain ⟨fs, hr, hrun, hended, hW, hsame⟩ := X0.leave (v := some (.long (m4_8_0 p1 q2 q3 q4))) (fun h => by rw [Bd.returns] at h; cases h) hlk
  refine ⟨_, _, pre8 _ ?_, hrun, hended, _, _, rfl, ?_, ⟨_, rfl⟩, hW, hsame.mono (by decide) (by decide)⟩
  · show Steps p.tables e below (s₁.setTop (mkF m 40 #[.val (.int p1), .val (.long q2), .second, .val (.long q3), .second, .val (.long q4), .second, .val (.long (m4_8_0 p1 q2 q3 q4)), .second] [])) _
    refine XS.lload X0.here hx rfl (hb hby d4_40) rfl ?_
    show Steps p.tables e below (s₁.setTop (mkF m 42 #[.val (.int p1), .val (.long q2), .second, .val (.long q3), .second, .val (.long q4), .second, .val (.long (m4_8_0 p1 q2 q3 q4)), .second] [(.long (m4_8_0 p1 q2 q3 q4))])) _
    jvm_step X0.here [X0.here.top, hx, (hb hby d4_42), X0.method', Bd.returns, narrow]
    first | (intro acts; rw [hr _ acts rfl rfl rfl]) | rw [hr _ _ rfl rfl rfl]
    exact Steps.refl _
  · show Q4 Z p1 q2 q3 q4 h0 n0 _ s₁.heap _
    rw [e0]
    exact ⟨by rw [show (f4 p1 q2 q3 q4) = (m4_8_0 p1 q2 q3 q4) from by first | (rw [f4]; done) | (simp only [f4]; done) | rfl], N0, rfl⟩
theorem d3_0 : decode method_5_code 0 = .ok (.iload_n 0, 1) := by decide +kernel
theorem d3_1 : decode method_5_code 1 = .ok (.iconst 1, 1) := by decide +kernel
theorem d3_2 : decode method_5_code 2 = .ok (.iload_n 1, 1) := by decide +kernel
theorem d3_3 : decode method_5_code 3 = .ok (.ishl, 1) := by decide +kernel
theorem d3_4 : decode method_5_code 4 = .ok (.if_icmp .lt 5, 3) := by decide +kernel
theorem d3_9 : decode method_5_code 9 = .ok (.iload_n 0, 1) := by decide +kernel
theorem d3_10 : decode method_5_code 10 = .ok (.iload_n 3, 1) := by decide +kernel
theorem d3_11 : decode method_5_code 11 = .ok (.iload 4, 2) := by decide +kernel
theorem d3_13 : decode method_5_code 13 = .ok (.iload 5, 2) := by decide +kernel
theorem d3_15 : decode method_5_code 15 = .ok (.invokestatic 13, 3) := by decide +kernel
theorem pd_0 : parseMethodDescriptor "(IIII)I" = some ⟨[.int, .int, .int, .int], some .int⟩ := by decide +kernel
theorem d3_18 : decode method_5_code 18 = .ok (.iload_n 2, 1) := by decide +kernel
theorem d3_19 : decode method_5_code 19 = .ok (.if_icmp .le 5, 3) := by decide +kernel
theorem d3_22 : decode method_5_code 22 = .ok (.lconst 0, 1) := by decide +kernel
theorem d3_23 : decode method_5_code 23 = .ok (.lreturn, 1) := by decide +kernel
theorem d3_24 : decode method_5_code 24 = .ok (.iload_n 0, 1) := by decide +kernel
theorem d3_25 : decode method_5_code 25 = .ok (.lload 6, 2) := by decide +kernel
theorem d3_27 : decode method_5_code 27 = .ok (.lload 8, 2) := by decide +kernel
theorem d3_29 : decode method_5_code 29 = .ok (.lload 10, 2) := by decide +kernel
theorem d3_31 : decode method_5_code 31 = .ok (.invokestatic 29, 3) := by decide +kernel
theorem pd_1 : parseMethodDescriptor "(IJJJ)J" = some ⟨[.int, .long, .long, .long], some .long⟩ := by decide +kernel
theorem d3_34 : decode method_5_code 34 = .ok (.lreturn, 1) := by decide +kernel
theorem d3_7 : decode method_5_code 7 = .ok (.lconst 0, 1) := by decide +kernel
theorem d3_8 : decode method_5_code 8 = .ok (.lreturn, 1) := by decide +kernel
def f3 (p1 : Int32) (p2 : Int32) (p3 : Int32) (p4 : Int32) (p5 : Int32) (p6 : Int32) (q7 : Int64) (q8 : Int64) (q9 : Int64) : Int64 := if p1 < ((1 : Int32) <<< (p2 &&& 31)) then if p3 < (f2 p1 p4 p5 p6) then (0 : Int64) else (f4 p1 q7 q8 q9) else (0 : Int64)
theorem ef_3 (m : MethodId) (x0 : Int32) (x1 : Int32) (x2 : Int32) (x3 : Int32) (x4 : Int32) (x5 : Int32) (x6 : Int64) (x7 : Int64) (x8 : Int64) : entryFrame m #[(.int x0), (.int x1), (.int x2), (.int x3), (.int x4), (.int x5), (.long x6), (.long x7), (.long x8)] 12 = mkF m 0 #[.val (.int x0), .val (.int x1), .val (.int x2), .val (.int x3), .val (.int x4), .val (.int x5), .val (.long x6), .second, .val (.long x7), .second, .val (.long x8), .second] [] := by first | (simp [entryFrame, mkF, argsToLocals, Value.category]; done) | rfl
def Q3 (Z : State) (p1 : Int32) (p2 : Int32) (p3 : Int32) (p4 : Int32) (p5 : Int32) (p6 : Int32) (q7 : Int64) (q8 : Int64) (q9 : Int64) (h0 : Heap) (n0 : Nat) (v : Option Value) (h : Heap) (L : List Loc) : Prop := v = some (.long (f3 p1 p2 p3 p4 p5 p6 q7 q8 q9)) ∧ Fr n0 L ∧ h = h0
set_option maxRecDepth 65536 in
set_option maxHeartbeats 40000000 in
theorem rm3 (l : Launch) (Z : State) (a0 : Array Value) (hw : ∀ d ∈ tables_1, d.before a0 Z = true) (ws : List Jvm.Cond) (p1 : Int32) (p2 : Int32) (p3 : Int32) (p4 : Int32) (p5 : Int32) (p6 : Int32) (q7 : Int64) (q8 : Int64) (q9 : Int64) (h0 : Heap) (n0 : Nat) (Z0 : n0 ≤ h0.size) :
    MetFree l (⟨"com/example/hindsight/hindsight/solvers/KnapsackHeaviestPinLaw", "value", "(IIIIIIJJJ)J"⟩ : MethodName) (head1 (Jvm.Cond.code (⟨"com/example/hindsight/hindsight/solvers/KnapsackHeaviestPinLaw", "value", "(IIIIIIJJJ)J"⟩ : MethodName) method_5_code 12 (some .long) :: ws) ({ frames := 1, cells := 0, slots := 0, locals := 20 } : Room)) (fun a U => a = #[(.int p1), (.int p2), (.int p3), (.int p4), (.int p5), (.int p6), (.long q7), (.long q8), (.long q9)] ∧ Z.Warmed39 U.vm ∧ U.heap = h0) (fun _ _ _ _ _ => True) (fun _ U o U' => ∃ v L, o = .returned v ∧ Q3 Z p1 p2 p3 p4 p5 p6 q7 q8 q9 h0 n0 v U'.heap L ∧ FrameEnd U o U' L ({ frames := 1, cells := 0, slots := 0, locals := 20 } : Room).cells ({ frames := 1, cells := 0, slots := 0, locals := 20 } : Room).slots) := by
  refine MetFree.of_bodySF (plainFor_of_name pn_1) hisR ?_
  intro p e s m args below meth c s₁ Bd hml0 hP hK
  obtain ⟨rfl, hZ, hh⟩ := hP
  have hx := Bd.exec
  have hlk : meth.locks = false := by first | exact BodyLoose.notSynchronized Bd | exact Body.notSynchronized Bd
  have hby := Bd.bytes
  have hml : c.maxLocals = 12 := hml0
  have hown : s.vm.findClass "com/example/hindsight/hindsight/solvers/KnapsackHeaviestPinLaw" = some m.cls := findClass_of_methodNamed Bd.named
  have hnm := (name_of_methodNamed Bd.named Bd.method).1
  have X0 : Stand p l e ({ frames := 1, cells := 0, slots := 0, locals := 20 } : Room) s m #[(.int p1), (.int p2), (.int p3), (.int p4), (.int p5), (.int p6), (.long q7), (.long q8), (.long q9)] below meth c s₁ [] 0 0 := Stand.of_body Bd
  have e0 : s₁.heap = h0 := by rw [← hh, Bd.state]; rfl
  have N0 := Fr.nil n0
  have pre0 : ∀ t, Steps p.tables e below (s₁.setTop (mkF m 0 #[.val (.int p1), .val (.int p2), .val (.int p3), .val (.int p4), .val (.int p5), .val (.int p6), .val (.long q7), .second, .val (.long q8), .second, .val (.long q9), .second] [])) t → Steps p.tables e below (s₁.setTop (entryFrame m #[(.int p1), (.int p2), (.int p3), (.int p4), (.int p5), (.int p6), (.long q7), (.long q8), (.long q9)] 12)) t := fun t k => castTop (ef_3 m p1 p2 p3 p4 p5 p6 q7 q8 q9) k
  have pre1 : ∀ t, Steps p.tables e below (s₁.setTop (mkF m 4 #[.val (.int p1), .val (.int p2), .val (.int p3), .val (.int p4), .val (.int p5), .val (.int p6), .val (.long q7), .second, .val (.long q8), .second, .val (.long q9), .second] [(.int ((1 : Int32) <<< (p2 &&& 31))), (.int p1)])) t → Steps p.tables e below (s₁.setTop (entryFrame m #[(.int p1), (.int p2), (.int p3), (.int p4), (.int p5), (.int p6), (.long q7), (.long q8), (.long q9)] 12)) t := fun t k => pre0 t (by
    show Steps p.tables e below (s₁.setTop (mkF m 0 #[.val (.int p1), .val (.int p2), .val (.int p3), .val (.int p4), .val (.int p5), .val (.int p6), .val (.long q7), .second, .val (.long q8), .second, .val (.long q9), .second] [])) _
    refine XS.iloadN X0.here hx rfl (hb hby d3_0) rfl ?_
    show Steps p.tables e below (s₁.setTop (mkF m 1 #[.val (.int p1), .val (.int p2), .val (.int p3), .val (.int p4), .val (.int p5), .val (.int p6), .val (.long q7), .second, .val (.long q8), .second, .val (.long q9), .second] [(.int p1)])) _
    refine XS.iconst X0.here hx rfl (hb hby d3_1) ?_
    show Steps p.tables e below (s₁.setTop (mkF m 2 #[.val (.int p1), .val (.int p2), .val (.int p3), .val (.int p4), .val (.int p5), .val (.int p6), .val (.long q7), .second, .val (.long q8), .second, .val (.long q9), .second] [(.int (1 : Int32)), (.int p1)])) _
    refine XS.iloadN X0.here hx rfl (hb hby d3_2) rfl ?_
    show Steps p.tables e below (s₁.setTop (mkF m 3 #[.val (.int p1), .val (.int p2), .val (.int p3), .val (.int p4), .val (.int p5), .val (.int p6), .val (.long q7), .second, .val (.long q8), .second, .val (.long q9), .second] [(.int p2), (.int (1 : Int32)), (.int p1)])) _
    refine XS.ishl X0.here hx rfl (hb hby d3_3) rfl ?_
    exact k)
  by_cases hc2 : p1 < ((1 : Int32) <<< (p2 &&& 31))
  · obtain ⟨_, _, ⟨T3, L3, k3, n3⟩, -, X3, ⟨Lc3, hQ3, l3, y3, z3⟩, st3⟩ := Jvm.LawKit.callS X0 hx (y := (⟨"com/example/hindsight/hindsight/solvers/KnapsackHeaviestPinLaw", "size", "(IIII)I"⟩ : MethodName)) hown (mvT hZ (hw _ (List.mem_of_getElem? (i := 9) rfl))) (mvT hZ (hw _ (List.mem_of_getElem? (i := 10) rfl))) (mvT hZ (hw _ (List.mem_of_getElem? (i := 11) rfl))) (mvT hZ (hw _ (List.mem_of_getElem? (i := 12) rfl))) (by decide) (backOf (W := 0) (rm2 l Z a0 hw [] p1 p4 p5 p6 h0 n0 Z0) hZ (hw _ (List.mem_of_getElem? (i := 12) rfl)) (hw _ (List.mem_of_getElem? (i := 11) rfl)) (by decide) (by decide)) (g := (mkF m 15 #[.val (.int p1), .val (.int p2), .val (.int p3), .val (.int p4), .val (.int p5), .val (.int p6), .val (.long q7), .second, .val (.long q8), .second, .val (.long q9), .second] [(.int p6), (.int p5), (.int p4), (.int p1)])) rfl (by rw [hml]; rfl) (argsL := [(.int p1), (.int p4), (.int p5), (.int p6)]) (rest := []) (lenOf pd_0 rfl) rfl (by show 2 * 0 + _ ≤ _; exact Nat.le_of_eq rfl) (hb hby d3_15) (fun _ _ => ⟨rfl, e0, (by decide : 0 + 0 ≤ _), (by decide : 0 + 0 ≤ _)⟩)
    dsimp only [Pt.U, Pt.locs, Pt.cells, Pt.slots] at X3 l3 y3 z3 st3 hQ3
    first | rw [l3, y3, z3] at X3 | subst l3 y3 z3
    obtain ⟨rfl, N3q, e3⟩ := hQ3
    have N3 := Fr.app N0 N3q
    have pre4 : ∀ t, Steps p.tables e below (T3.setTop (mkF m 19 #[.val (.int p1), .val (.int p2), .val (.int p3), .val (.int p4), .val (.int p5), .val (.int p6), .val (.long q7), .second, .val (.long q8), .second, .val (.long q9), .second] [(.int p3), (.int (f2 p1 p4 p5 p6))])) t → Steps p.tables e below (s₁.setTop (entryFrame m #[(.int p1), (.int p2), (.int p3), (.int p4), (.int p5), (.int p6), (.long q7), (.long q8), (.long q9)] 12)) t := fun t k => pre1 t (by
      show Steps p.tables e below (s₁.setTop (mkF m 4 #[.val (.int p1), .val (.int p2), .val (.int p3), .val (.int p4), .val (.int p5), .val (.int p6), .val (.long q7), .second, .val (.long q8), .second, .val (.long q9), .second] [(.int ((1 : Int32) <<< (p2 &&& 31))), (.int p1)])) _
      refine XS.icmpYes X0.here hx rfl (pc0 := 4) (pc' := 9) rfl (hb hby d3_4) rfl (tlt hc2).1 (by decide) (by decide) ?_
      show Steps p.tables e below (s₁.setTop (mkF m 9 #[.val (.int p1), .val (.int p2), .val (.int p3), .val (.int p4), .val (.int p5), .val (.int p6), .val (.long q7), .second, .val (.long q8), .second, .val (.long q9), .second] [])) _
      refine XS.iloadN X0.here hx rfl (hb hby d3_9) rfl ?_
      show Steps p.tables e below (s₁.setTop (mkF m 10 #[.val (.int p1), .val (.int p2), .val (.int p3), .val (.int p4), .val (.int p5), .val (.int p6), .val (.long q7), .second, .val (.long q8), .second, .val (.long q9), .second] [(.int p1)])) _
      refine XS.iloadN X0.here hx rfl (hb hby d3_10) rfl ?_
      show Steps p.tables e below (s₁.setTop (mkF m 11 #[.val (.int p1), .val (.int p2), .val (.int p3), .val (.int p4), .val (.int p5), .val (.int p6), .val (.long q7), .second, .val (.long q8), .second, .val (.long q9), .second] [(.int p4), (.int p1)])) _
      refine XS.iload X0.here hx rfl (hb hby d3_11) rfl ?_
      show Steps p.tables e below (s₁.setTop (mkF m 13 #[.val (.int p1), .val (.int p2), .val (.int p3), .val (.int p4), .val (.int p5), .val (.int p6), .val (.long q7), .second, .val (.long q8), .second, .val (.long q9), .second] [(.int p5), (.int p4), (.int p1)])) _
      refine XS.iload X0.here hx rfl (hb hby d3_13) rfl ?_
      show Steps p.tables e below (s₁.setTop (mkF m 15 #[.val (.int p1), .val (.int p2), .val (.int p3), .val (.int p4), .val (.int p5), .val (.int p6), .val (.long q7), .second, .val (.long q8), .second, .val (.long q9), .second] [(.int p6), (.int p5), (.int p4), (.int p1)])) _
      refine st3 _ ?_
      show Steps p.tables e below (T3.setTop (mkF m 18 #[.val (.int p1), .val (.int p2), .val (.int p3), .val (.int p4), .val (.int p5), .val (.int p6), .val (.long q7), .second, .val (.long q8), .second, .val (.long q9), .second] [(.int (f2 p1 p4 p5 p6))])) _
      refine XS.iloadN X3.here hx rfl (hb hby d3_18) rfl ?_
      exact k)
    by_cases hc5 : p3 < (f2 p1 p4 p5 p6)
    · obtain ⟨fs, hr, hrun, hended, hW, hsame⟩ := X3.leave (v := some (.long (0 : Int64))) (fun h => by rw [Bd.returns] at h; cases h) hlk
      refine ⟨_, _, pre4 _ ?_, hrun, hended, _, _, rfl, ?_, ⟨_, rfl⟩, hW, hsame.mono (by decide) (by decide)⟩
      · show Steps p.tables e below (T3.setTop (mkF m 19 #[.val (.int p1), .val (.int p2), .val (.int p3), .val (.int p4), .val (.int p5), .val (.int p6), .val (.long q7), .second, .val (.long q8), .second, .val (.long q9), .second] [(.int p3), (.int (f2 p1 p4 p5 p6))])) _
        refine XS.icmpNo X3.here hx rfl (hb hby d3_19) rfl (tlt hc5).2.2.2 ?_
        show Steps p.tables e below (T3.setTop (mkF m 22 #[.val (.int p1), .val (.int p2), .val (.int p3), .val (.int p4), .val (.int p5), .val (.int p6), .val (.long q7), .second, .val (.long q8), .second, .val (.long q9), .second] [])) _
        refine XS.lconst X3.here hx rfl (hb hby d3_22) ?_
        show Steps p.tables e below (T3.setTop (mkF m 23 #[.val (.int p1), .val (.int p2), .val (.int p3), .val (.int p4), .val (.int p5), .val (.int p6), .val (.long q7), .second, .val (.long q8), .second, .val (.long q9), .second] [(.long (0 : Int64))])) _
        jvm_step X3.here [X3.here.top, hx, (hb hby d3_23), X3.method', Bd.returns, narrow]
        first | (intro acts; rw [hr _ acts rfl rfl rfl]) | rw [hr _ _ rfl rfl rfl]
        exact Steps.refl _
      · show Q3 Z p1 p2 p3 p4 p5 p6 q7 q8 q9 h0 n0 _ T3.heap _
        rw [e3]
        exact ⟨by rw [show (f3 p1 p2 p3 p4 p5 p6 q7 q8 q9) = (0 : Int64) from by first | (rw [f3, if_pos hc2, if_pos hc5]; done) | (simp only [f3, if_pos hc2, if_pos hc5]; done) | rfl], N3, rfl⟩
    · obtain ⟨_, _, ⟨T7, L7, k7, n7⟩, -, X7, ⟨Lc7, hQ7, l7, y7, z7⟩, st7⟩ := Jvm.LawKit.callS X3 hx (y := (⟨"com/example/hindsight/hindsight/solvers/KnapsackHeaviestPinLaw", "weight", "(IJJJ)J"⟩ : MethodName)) hown (mvT hZ (hw _ (List.mem_of_getElem? (i := 16) rfl))) (mvT hZ (hw _ (List.mem_of_getElem? (i := 17) rfl))) (mvT hZ (hw _ (List.mem_of_getElem? (i := 11) rfl))) (mvT hZ (hw _ (List.mem_of_getElem? (i := 18) rfl))) (by decide) (backOf (W := 0) (rm4 l Z a0 hw [] p1 q7 q8 q9 h0 n0 Z0) hZ (hw _ (List.mem_of_getElem? (i := 18) rfl)) (hw _ (List.mem_of_getElem? (i := 11) rfl)) (by decide) (by decide)) (g := (mkF m 31 #[.val (.int p1), .val (.int p2), .val (.int p3), .val (.int p4), .val (.int p5), .val (.int p6), .val (.long q7), .second, .val (.long q8), .second, .val (.long q9), .second] [(.long q9), (.long q8), (.long q7), (.int p1)])) rfl (by rw [hml]; rfl) (argsL := [(.int p1), (.long q7), (.long q8), (.long q9)]) (rest := []) (lenOf pd_1 rfl) rfl (by show 2 * 0 + _ ≤ _; exact Nat.le_of_eq rfl) (hb hby d3_31) (fun _ _ => ⟨rfl, e3, (by decide : 0 + 0 ≤ _), (by decide : 0 + 0 ≤ _)⟩)
      dsimp only [Pt.U, Pt.locs, Pt.cells, Pt.slots] at X7 l7 y7 z7 st7 hQ7
      first | rw [l7, y7, z7] at X7 | subst l7 y7 z7
      obtain ⟨rfl, N7q, e7⟩ := hQ7
      have N7 := Fr.app N3 N7q
      obtain ⟨fs, hr, hrun, hended, hW, hsame⟩ := X7.leave (v := some (.long (f4 p1 q7 q8 q9))) (fun h => by rw [Bd.returns] at h; cases h) hlk
      refine ⟨_, _, pre4 _ ?_, hrun, hended, _, _, rfl, ?_, ⟨_, rfl⟩, hW, hsame.mono (by decide) (by decide)⟩
      · show Steps p.tables e below (T3.setTop (mkF m 19 #[.val (.int p1), .val (.int p2), .val (.int p3), .val (.int p4), .val (.int p5), .val (.int p6), .val (.long q7), .second, .val (.long q8), .second, .val (.long q9), .second] [(.int p3), (.int (f2 p1 p4 p5 p6))])) _
        refine XS.icmpYes X3.here hx rfl (pc0 := 19) (pc' := 24) rfl (hb hby d3_19) rfl (flt hc5).2.2.2 (by decide) (by decide) ?_
        show Steps p.tables e below (T3.setTop (mkF m 24 #[.val (.int p1), .val (.int p2), .val (.int p3), .val (.int p4), .val (.int p5), .val (.int p6), .val (.long q7), .second, .val (.long q8), .second, .val (.long q9), .second] [])) _
        refine XS.iloadN X3.here hx rfl (hb hby d3_24) rfl ?_
        show Steps p.tables e below (T3.setTop (mkF m 25 #[.val (.int p1), .val (.int p2), .val (.int p3), .val (.int p4), .val (.int p5), .val (.int p6), .val (.long q7), .second, .val (.long q8), .second, .val (.long q9), .second] [(.int p1)])) _
        refine XS.lload X3.here hx rfl (hb hby d3_25) rfl ?_
        show Steps p.tables e below (T3.setTop (mkF m 27 #[.val (.int p1), .val (.int p2), .val (.int p3), .val (.int p4), .val (.int p5), .val (.int p6), .val (.long q7), .second, .val (.long q8), .second, .val (.long q9), .second] [(.long q7), (.int p1)])) _
        refine XS.lload X3.here hx rfl (hb hby d3_27) rfl ?_
        show Steps p.tables e below (T3.setTop (mkF m 29 #[.val (.int p1), .val (.int p2), .val (.int p3), .val (.int p4), .val (.int p5), .val (.int p6), .val (.long q7), .second, .val (.long q8), .second, .val (.long q9), .second] [(.long q8), (.long q7), (.int p1)])) _
        refine XS.lload X3.here hx rfl (hb hby d3_29) rfl ?_
        show Steps p.tables e below (T3.setTop (mkF m 31 #[.val (.int p1), .val (.int p2), .val (.int p3), .val (.int p4), .val (.int p5), .val (.int p6), .val (.long q7), .second, .val (.long q8), .second, .val (.long q9), .second] [(.long q9), (.long q8), (.long q7), (.int p1)])) _
        refine st7 _ ?_
        show Steps p.tables e below (T7.setTop (mkF m 34 #[.val (.int p1), .val (.int p2), .val (.int p3), .val (.int p4), .val (.int p5), .val (.int p6), .val (.long q7), .second, .val (.long q8), .second, .val (.long q9), .second] [(.long (f4 p1 q7 q8 q9))])) _
        jvm_step X7.here [X7.here.top, hx, (hb hby d3_34), X7.method', Bd.returns, narrow]
        first | (intro acts; rw [hr _ acts rfl rfl rfl]) | rw [hr _ _ rfl rfl rfl]
        exact Steps.refl _
      · show Q3 Z p1 p2 p3 p4 p5 p6 q7 q8 q9 h0 n0 _ T7.heap _
        rw [e7]
        exact ⟨by rw [show (f3 p1 p2 p3 p4 p5 p6 q7 q8 q9) = (f4 p1 q7 q8 q9) from by first | (rw [f3, if_pos hc2, if_neg hc5]; done) | (simp only [f3, if_pos hc2, if_neg hc5]; done) | rfl], N7, rfl⟩
  · obtain ⟨fs, hr, hrun, hended, hW, hsame⟩ := X0.leave (v := some (.long (0 : Int64))) (fun h => by rw [Bd.returns] at h; cases h) hlk
    refine ⟨_, _, pre1 _ ?_, hrun, hended, _, _, rfl, ?_, ⟨_, rfl⟩, hW, hsame.mono (by decide) (by decide)⟩
    · show Steps p.tables e below (s₁.setTop (mkF m 4 #[.val (.int p1), .val (.int p2), .val (.int p3), .val (.int p4), .val (.int p5), .val (.int p6), .val (.long q7), .second, .val (.long q8), .second, .val (.long q9), .second] [(.int ((1 : Int32) <<< (p2 &&& 31))), (.int p1)])) _
      refine XS.icmpNo X0.here hx rfl (hb hby d3_4) rfl (flt hc2).1 ?_
      show Steps p.tables e below (s₁.setTop (mkF m 7 #[.val (.int p1), .val (.int p2), .val (.int p3), .val (.int p4), .val (.int p5), .val (.int p6), .val (.long q7), .second, .val (.long q8), .second, .val (.long q9), .second] [])) _
      refine XS.lconst X0.here hx rfl (hb hby d3_7) ?_
      show Steps p.tables e below (s₁.setTop (mkF m 8 #[.val (.int p1), .val (.int p2), .val (.int p3), .val (.int p4), .val (.int p5), .val (.int p6), .val (.long q7), .second, .val (.long q8), .second, .val (.long q9), .second] [(.long (0 : Int64))])) _
      jvm_step X0.here [X0.here.top, hx, (hb hby d3_8), X0.method', Bd.returns, narrow]
      first | (intro acts; rw [hr _ acts rfl rfl rfl]) | rw [hr _ _ rfl rfl rfl]
      exact Steps.refl _
    · show Q3 Z p1 p2 p3 p4 p5 p6 q7 q8 q9 h0 n0 _ s₁.heap _
      rw [e0]
      exact ⟨by rw [show (f3 p1 p2 p3 p4 p5 p6 q7 q8 q9) = (0 : Int64) from by first | (rw [f3, if_neg hc2]; done) | (simp only [f3, if_neg hc2]; done) | rfl], N0, rfl⟩
theorem d5_0 : decode jdk_29_method_66_code 0 = .ok (.lload_n 0, 1) := by decide +kernel
theorem d5_1 : decode jdk_29_method_66_code 1 = .ok (.lload_n 2, 1) := by decide +kernel
theorem d5_2 : decode jdk_29_method_66_code 2 = .ok (.lcmp, 1) := by decide +kernel
theorem d5_3 : decode jdk_29_method_66_code 3 = .ok (.ifCond .lt 7, 3) := by decide +kernel
theorem d5_10 : decode jdk_29_method_66_code 10 = .ok (.lload_n 2, 1) := by decide +kernel
theorem d5_11 : decode jdk_29_method_66_code 11 = .ok (.lreturn, 1) := by decide +kernel
theorem d5_6 : decode jdk_29_method_66_code 6 = .ok (.lload_n 0, 1) := by decide +kernel
theorem d5_7 : decode jdk_29_method_66_code 7 = .ok (.goto 4, 3) := by decide +kernel
def f5 (q1 : Int64) (q2 : Int64) : Int64 := if (lcmpW q1 q2) < (0 : Int32) then q2 else q1
theorem ef_5 (m : MethodId) (x0 : Int64) (x1 : Int64) : entryFrame m #[(.long x0), (.long x1)] 4 = mkF m 0 #[.val (.long x0), .second, .val (.long x1), .second] [] := by first | (simp [entryFrame, mkF, argsToLocals, Value.category]; done) | rfl
def Q5 (Z : State) (q1 : Int64) (q2 : Int64) (h0 : Heap) (n0 : Nat) (v : Option Value) (h : Heap) (L : List Loc) : Prop := v = some (.long (f5 q1 q2)) ∧ Fr n0 L ∧ h = h0
set_option maxRecDepth 65536 in
set_option maxHeartbeats 40000000 in
theorem rm5 (l : Launch) (Z : State) (a0 : Array Value) (hw : ∀ d ∈ tables_1, d.before a0 Z = true) (ws : List Jvm.Cond) (q1 : Int64) (q2 : Int64) (h0 : Heap) (n0 : Nat) (Z0 : n0 ≤ h0.size) :
    MetFree l (⟨"java/lang/Math", "max", "(JJ)J"⟩ : MethodName) (head1 (Jvm.Cond.code (⟨"java/lang/Math", "max", "(JJ)J"⟩ : MethodName) jdk_29_method_66_code 4 (some .long) :: ws) ({ frames := 0, cells := 0, slots := 0, locals := 0 } : Room)) (fun a U => a = #[(.long q1), (.long q2)] ∧ Z.Warmed39 U.vm ∧ U.heap = h0) (fun _ _ _ _ _ => True) (fun _ U o U' => ∃ v L, o = .returned v ∧ Q5 Z q1 q2 h0 n0 v U'.heap L ∧ FrameEnd U o U' L ({ frames := 0, cells := 0, slots := 0, locals := 0 } : Room).cells ({ frames := 0, cells := 0, slots := 0, locals := 0 } : Room).slots) := by
  refine MetFree.of_bodySF (Jvm.Free.JP.mathPlain rfl (by decide +kernel)) hisR ?_
  intro p e s m args below meth c s₁ Bd hml0 hP hK
  obtain ⟨rfl, hZ, hh⟩ := hP
  have hx := Bd.exec
  have hlk : meth.locks = false := by first | exact BodyLoose.notSynchronized Bd | exact Body.notSynchronized Bd
  have hby := Bd.bytes
  have hml : c.maxLocals = 4 := hml0
  have hown : s.vm.findClass "java/lang/Math" = some m.cls := findClass_of_methodNamed Bd.named
  have hnm := (name_of_methodNamed Bd.named Bd.method).1
  have X0 : Stand p l e ({ frames := 0, cells := 0, slots := 0, locals := 0 } : Room) s m #[(.long q1), (.long q2)] below meth c s₁ [] 0 0 := Stand.of_body Bd
  have e0 : s₁.heap = h0 := by rw [← hh, Bd.state]; rfl
  have N0 := Fr.nil n0
  have pre0 : ∀ t, Steps p.tables e below (s₁.setTop (mkF m 0 #[.val (.long q1), .second, .val (.long q2), .second] [])) t → Steps p.tables e below (s₁.setTop (entryFrame m #[(.long q1), (.long q2)] 4)) t := fun t k => castTop (ef_5 m q1 q2) k
  have pre1 : ∀ t, Steps p.tables e below (s₁.setTop (mkF m 3 #[.val (.long q1), .second, .val (.long q2), .second] [(.int (lcmpW q1 q2))])) t → Steps p.tables e below (s₁.setTop (entryFrame m #[(.long q1), (.long q2)] 4)) t := fun t k => pre0 t (by
    show Steps p.tables e below (s₁.setTop (mkF m 0 #[.val (.long q1), .second, .val (.long q2), .second] [])) _
    refine XS.lloadN X0.here hx rfl (hb hby d5_0) rfl ?_
    show Steps p.tables e below (s₁.setTop (mkF m 1 #[.val (.long q1), .second, .val (.long q2), .second] [(.long q1)])) _
    refine XS.lloadN X0.here hx rfl (hb hby d5_1) rfl ?_
    show Steps p.tables e below (s₁.setTop (mkF m 2 #[.val (.long q1), .second, .val (.long q2), .second] [(.long q2), (.long q1)])) _
    refine XS.lcmp X0.here hx rfl (hb hby d5_2) rfl ?_
    exact k)
  by_cases hc2 : (lcmpW q1 q2) < (0 : Int32)
  · obtain ⟨fs, hr, hrun, hended, hW, hsame⟩ := X0.leave (v := some (.long q2)) (fun h => by rw [Bd.returns] at h; cases h) hlk
    refine ⟨_, _, pre1 _ ?_, hrun, hended, _, _, rfl, ?_, ⟨_, rfl⟩, hW, hsame.mono (by decide) (by decide)⟩
    · show Steps p.tables e below (s₁.setTop (mkF m 3 #[.val (.long q1), .second, .val (.long q2), .second] [(.int (lcmpW q1 q2))])) _
      refine XS.ifYes X0.here hx rfl (pc0 := 3) (pc' := 10) rfl (hb hby d5_3) rfl ((if0 _ _).trans (tlt hc2).1) (by decide) (by decide) ?_
      show Steps p.tables e below (s₁.setTop (mkF m 10 #[.val (.long q1), .second, .val (.long q2), .second] [])) _
      refine XS.lloadN X0.here hx rfl (hb hby d5_10) rfl ?_
      show Steps p.tables e below (s₁.setTop (mkF m 11 #[.val (.long q1), .second, .val (.long q2), .second] [(.long q2)])) _
      jvm_step X0.here [X0.here.top, hx, (hb hby d5_11), X0.method', Bd.returns, narrow]
      first | (intro acts; rw [hr _ acts rfl rfl rfl]) | rw [hr _ _ rfl rfl rfl]
      exact Steps.refl _
    · show Q5 Z q1 q2 h0 n0 _ s₁.heap _
      rw [e0]
      exact ⟨by rw [show (f5 q1 q2) = q2 from by first | (rw [f5, if_pos hc2]; done) | (simp only [f5, if_pos hc2]; done) | rfl], N0, rfl⟩
  · obtain ⟨fs, hr, hrun, hended, hW, hsame⟩ := X0.leave (v := some (.long q1)) (fun h => by rw [Bd.returns] at h; cases h) hlk
    refine ⟨_, _, pre1 _ ?_, hrun, hended, _, _, rfl, ?_, ⟨_, rfl⟩, hW, hsame.mono (by decide) (by decide)⟩
    · show Steps p.tables e below (s₁.setTop (mkF m 3 #[.val (.long q1), .second, .val (.long q2), .second] [(.int (lcmpW q1 q2))])) _
      refine XS.ifNo X0.here hx rfl (hb hby d5_3) rfl ((if0 _ _).trans (flt hc2).1) ?_
      show Steps p.tables e below (s₁.setTop (mkF m 6 #[.val (.long q1), .second, .val (.long q2), .second] [])) _
      refine XS.lloadN X0.here hx rfl (hb hby d5_6) rfl ?_
      show Steps p.tables e below (s₁.setTop (mkF m 7 #[.val (.long q1), .second, .val (.long q2), .second] [(.long q1)])) _
      refine XS.goto X0.here hx rfl (pc0 := 7) (pc' := 11) rfl (hb hby d5_7) (by decide) (by decide) ?_
      show Steps p.tables e below (s₁.setTop (mkF m 11 #[.val (.long q1), .second, .val (.long q2), .second] [(.long q1)])) _
      jvm_step X0.here [X0.here.top, hx, (hb hby d5_11), X0.method', Bd.returns, narrow]
      first | (intro acts; rw [hr _ acts rfl rfl rfl]) | rw [hr _ _ rfl rfl rfl]
      exact Steps.refl _
    · show Q5 Z q1 q2 h0 n0 _ s₁.heap _
      rw [e0]
      exact ⟨by rw [show (f5 q1 q2) = q1 from by first | (rw [f5, if_neg hc2]; done) | (simp only [f5, if_neg hc2]; done) | rfl], N0, rfl⟩


theorem own_bit {m k : Int32} {x : Bool} {A : Type} {a b : A} (h : (m &&& k = 0) = (x = false)) : (if m &&& k = 0 then a else b) = if x = true then b else a := by
  cases x
  · rw [if_pos (by rw [h]), if_neg (by decide)]
  · rw [if_neg (by rw [h]; decide), if_pos rfl]
theorem own_a32 {a b : Int32} (h1 : -2147483648 ≤ a.toInt + b.toInt) (h : a.toInt + b.toInt < 2147483648) : (a + b).toInt = a.toInt + b.toInt := by
  rw [Int32.toInt_add]; exact Int.bmod_eq_of_le (by omega) (by omega)
theorem own_a64 {a b : Int64} (h1 : -4611686018427387904 ≤ a.toInt + b.toInt) (h : a.toInt + b.toInt < 4611686018427387904) : (a + b).toInt = a.toInt + b.toInt := by
  rw [Int64.toInt_add]; exact Int.bmod_eq_of_le (by omega) (by omega)
def own_mk (M : Int32) (x0 x1 x2 : Bool) : Prop := ((M &&& 1 = 0) = (x0 = false)) ∧ ((M &&& 2 = 0) = (x1 = false)) ∧ ((M &&& 4 = 0) = (x2 = false))
theorem own_szf {M cap s0 s1 s2 : Int32} {x0 x1 x2 : Bool} (hk : own_cap cap) (h0 : own_rg s0 cap) (h1 : own_rg s1 cap) (h2 : own_rg s2 cap) (hm : own_mk M x0 x1 x2) : (f2 M s0 s1 s2).toInt = own_sz s0 s1 s2 x0 x1 x2 := by
  obtain ⟨m0, m1, m2⟩ := hm
  obtain ⟨k0, k1⟩ := hk
  obtain ⟨a0, a1⟩ := h0
  obtain ⟨b0, b1⟩ := h1
  obtain ⟨c0, c1⟩ := h2
  have z : (0 : Int32).toInt = 0 := rfl
  have e1 : (m2_2_0 M s0).toInt = own_if x0 s0.toInt := by
    unfold m2_2_0 own_if
    rw [own_bit m0]
    cases x0
    · rfl
    · show (0 + s0).toInt = s0.toInt
      rw [own_a32 (by omega) (by omega)]; omega
  have i0 : own_if x0 s0.toInt = 0 ∨ own_if x0 s0.toInt = s0.toInt := by cases x0; exact Or.inl rfl; exact Or.inr rfl
  have e2 : (m2_5_0 M s0 s1).toInt = own_if x0 s0.toInt + own_if x1 s1.toInt := by
    unfold m2_5_0
    rw [own_bit m1]
    cases x1
    · show (m2_2_0 M s0).toInt = _ + 0; omega
    · show (m2_2_0 M s0 + s1).toInt = _ + s1.toInt
      rw [own_a32 (by omega) (by omega), e1]
  have i1 : own_if x1 s1.toInt = 0 ∨ own_if x1 s1.toInt = s1.toInt := by cases x1; exact Or.inl rfl; exact Or.inr rfl
  unfold f2 m2_8_0 own_sz
  rw [own_bit m2]
  cases x2
  · show (m2_5_0 M s0 s1).toInt = _ + 0; omega
  · show (m2_5_0 M s0 s1 + s2).toInt = _ + s2.toInt
    rw [own_a32 (by omega) (by omega), e2]
theorem own_wtf {M : Int32} {v0 v1 v2 : Int64} {x0 x1 x2 : Bool} (h0 : own_vr v0) (h1 : own_vr v1) (h2 : own_vr v2) (hm : own_mk M x0 x1 x2) : (f4 M v0 v1 v2).toInt = own_wt v0 v1 v2 x0 x1 x2 := by
  obtain ⟨m0, m1, m2⟩ := hm
  obtain ⟨a0, a1⟩ := h0
  obtain ⟨b0, b1⟩ := h1
  obtain ⟨c0, c1⟩ := h2
  have z : (0 : Int64).toInt = 0 := rfl
  have e1 : (m4_2_0 M v0).toInt = own_if x0 v0.toInt := by
    unfold m4_2_0 own_if
    rw [own_bit m0]
    cases x0
    · rfl
    · show (0 + v0).toInt = v0.toInt
      rw [own_a64 (by omega) (by omega)]; omega
  have i0 : own_if x0 v0.toInt = 0 ∨ own_if x0 v0.toInt = v0.toInt := by cases x0; exact Or.inl rfl; exact Or.inr rfl
  have e2 : (m4_5_0 M v0 v1).toInt = own_if x0 v0.toInt + own_if x1 v1.toInt := by
    unfold m4_5_0
    rw [own_bit m1]
    cases x1
    · show (m4_2_0 M v0).toInt = _ + 0; omega
    · show (m4_2_0 M v0 + v1).toInt = _ + v1.toInt
      rw [own_a64 (by omega) (by omega), e1]
  have i1 : own_if x1 v1.toInt = 0 ∨ own_if x1 v1.toInt = v1.toInt := by cases x1; exact Or.inl rfl; exact Or.inr rfl
  unfold f4 m4_8_0 own_wt
  rw [own_bit m2]
  cases x2
  · show (m4_5_0 M v0 v1).toInt = _ + 0; omega
  · show (m4_5_0 M v0 v1 + v2).toInt = _ + v2.toInt
    rw [own_a64 (by omega) (by omega), e2]
theorem own_f5 (a b : Int64) : (f5 a b).toInt = max a.toInt b.toInt := by
  unfold f5
  by_cases q : lcmpW a b < 0
  · rw [if_pos q]
    have := Int64.lt_iff_toInt_lt.mp (own_lt.mp q); omega
  · rw [if_neg q]
    have : ¬ a < b := fun h => q (own_lt.mpr h)
    rw [Int64.lt_iff_toInt_lt] at this; omega
def own_mx (n cap s0 s1 s2 : Int32) (v0 v1 v2 : Int64) : Int64 := (f5 (f5 (f5 (f5 (f5 (f5 (f5 (f5 (0 : Int64) (f3 (0 : Int32) n cap s0 s1 s2 v0 v1 v2)) (f3 (1 : Int32) n cap s0 s1 s2 v0 v1 v2)) (f3 (2 : Int32) n cap s0 s1 s2 v0 v1 v2)) (f3 (3 : Int32) n cap s0 s1 s2 v0 v1 v2)) (f3 (4 : Int32) n cap s0 s1 s2 v0 v1 v2)) (f3 (5 : Int32) n cap s0 s1 s2 v0 v1 v2)) (f3 (6 : Int32) n cap s0 s1 s2 v0 v1 v2)) (f3 (7 : Int32) n cap s0 s1 s2 v0 v1 v2))
/-- a subset's value is no more than W; that of one that fits is its weight -/
theorem own_vle {n k cap s0 s1 s2 : Int32} {v0 v1 v2 : Int64} {y0 y1 y2 : Bool} {W : Int} (hk : own_cap cap) (h0 : own_rg s0 cap) (h1 : own_rg s1 cap) (h2 : own_rg s2 cap) (g0 : own_vr v0) (g1 : own_vr v1) (g2 : own_vr v2) (hm : own_mk k y0 y1 y2)
    (hW : 0 ≤ W) (hU : k < (1 : Int32) <<< (n &&& 31) → own_sz s0 s1 s2 y0 y1 y2 ≤ cap.toInt → own_wt v0 v1 v2 y0 y1 y2 ≤ W) : (f3 k n cap s0 s1 s2 v0 v1 v2).toInt ≤ W := by
  unfold f3
  by_cases q : k < (1 : Int32) <<< (n &&& 31)
  · rw [if_pos q]
    by_cases q2 : cap < f2 k s0 s1 s2
    · rw [if_pos q2]; exact hW
    · rw [if_neg q2, own_wtf g0 g1 g2 hm]
      refine hU q ?_
      have := own_nlt q2
      rw [own_szf hk h0 h1 h2 hm] at this; exact this
  · rw [if_neg q]; exact hW
theorem own_veq {n k cap s0 s1 s2 : Int32} {v0 v1 v2 : Int64} {y0 y1 y2 : Bool} (hk : own_cap cap) (h0 : own_rg s0 cap) (h1 : own_rg s1 cap) (h2 : own_rg s2 cap) (g0 : own_vr v0) (g1 : own_vr v1) (g2 : own_vr v2) (hm : own_mk k y0 y1 y2)
    (q : k < (1 : Int32) <<< (n &&& 31)) (hs : own_sz s0 s1 s2 y0 y1 y2 ≤ cap.toInt) : ¬ cap < f2 k s0 s1 s2 ∧ (f3 k n cap s0 s1 s2 v0 v1 v2).toInt = own_wt v0 v1 v2 y0 y1 y2 := by
  have q2 : ¬ cap < f2 k s0 s1 s2 := fun h => by
    have h := Int32.lt_iff_toInt_lt.mp h
    rw [own_szf hk h0 h1 h2 hm] at h; omega
  refine ⟨q2, ?_⟩
  unfold f3
  rw [if_pos q, if_neg q2, own_wtf g0 g1 g2 hm]

theorem own_mk0 : own_mk (0 : Int32) false false false := ⟨by decide, by decide, by decide⟩
theorem own_mk1 : own_mk (1 : Int32) true false false := ⟨by decide, by decide, by decide⟩
theorem own_mk2 : own_mk (2 : Int32) false true false := ⟨by decide, by decide, by decide⟩
theorem own_mk3 : own_mk (3 : Int32) true true false := ⟨by decide, by decide, by decide⟩
theorem own_mk4 : own_mk (4 : Int32) false false true := ⟨by decide, by decide, by decide⟩
theorem own_mk5 : own_mk (5 : Int32) true false true := ⟨by decide, by decide, by decide⟩
theorem own_mk6 : own_mk (6 : Int32) false true true := ⟨by decide, by decide, by decide⟩
theorem own_mk7 : own_mk (7 : Int32) true true true := ⟨by decide, by decide, by decide⟩
theorem own_end_0_0 {cap s0 s1 s2 : Int32} {v0 v1 v2 : Int64} (hk : own_cap cap) (h0 : own_rg s0 cap) (h1 : own_rg s1 cap) (h2 : own_rg s2 cap) (g0 : own_vr v0) (g1 : own_vr v1) (g2 : own_vr v2) (hg : own_good cap 0 0 0 0 0 0 false false false) : ¬ cap < f2 (0 : Int32) s0 s1 s2 ∧ f4 (0 : Int32) v0 v1 v2 = own_mx (0 : Int32) cap s0 s1 s2 v0 v1 v2 := by
  obtain ⟨-, -, -, hsz, hU⟩ := hg
  have hW : 0 ≤ own_wt v0 v1 v2 false false false := hU false false false hk.1
  obtain ⟨c1, c2⟩ := own_veq (n := (0 : Int32)) (k := (0 : Int32)) hk h0 h1 h2 g0 g1 g2 own_mk0 (by decide) hsz
  have w0 : (f3 (0 : Int32) (0 : Int32) cap s0 s1 s2 v0 v1 v2).toInt ≤ own_wt v0 v1 v2 false false false := own_vle hk h0 h1 h2 g0 g1 g2 own_mk0 hW (fun q hs => hU false false false hs)
  have w1 : (f3 (1 : Int32) (0 : Int32) cap s0 s1 s2 v0 v1 v2).toInt ≤ own_wt v0 v1 v2 false false false := own_vle hk h0 h1 h2 g0 g1 g2 own_mk1 hW (fun q hs => absurd q (by decide))
  have w2 : (f3 (2 : Int32) (0 : Int32) cap s0 s1 s2 v0 v1 v2).toInt ≤ own_wt v0 v1 v2 false false false := own_vle hk h0 h1 h2 g0 g1 g2 own_mk2 hW (fun q hs => absurd q (by decide))
  have w3 : (f3 (3 : Int32) (0 : Int32) cap s0 s1 s2 v0 v1 v2).toInt ≤ own_wt v0 v1 v2 false false false := own_vle hk h0 h1 h2 g0 g1 g2 own_mk3 hW (fun q hs => absurd q (by decide))
  have w4 : (f3 (4 : Int32) (0 : Int32) cap s0 s1 s2 v0 v1 v2).toInt ≤ own_wt v0 v1 v2 false false false := own_vle hk h0 h1 h2 g0 g1 g2 own_mk4 hW (fun q hs => absurd q (by decide))
  have w5 : (f3 (5 : Int32) (0 : Int32) cap s0 s1 s2 v0 v1 v2).toInt ≤ own_wt v0 v1 v2 false false false := own_vle hk h0 h1 h2 g0 g1 g2 own_mk5 hW (fun q hs => absurd q (by decide))
  have w6 : (f3 (6 : Int32) (0 : Int32) cap s0 s1 s2 v0 v1 v2).toInt ≤ own_wt v0 v1 v2 false false false := own_vle hk h0 h1 h2 g0 g1 g2 own_mk6 hW (fun q hs => absurd q (by decide))
  have w7 : (f3 (7 : Int32) (0 : Int32) cap s0 s1 s2 v0 v1 v2).toInt ≤ own_wt v0 v1 v2 false false false := own_vle hk h0 h1 h2 g0 g1 g2 own_mk7 hW (fun q hs => absurd q (by decide))
  refine ⟨c1, Int64.toInt_inj.mp ?_⟩
  have z : (0 : Int64).toInt = 0 := rfl
  rw [own_wtf g0 g1 g2 own_mk0]
  unfold own_mx
  simp only [own_f5]
  omega
theorem own_end_1_0 {cap s0 s1 s2 : Int32} {v0 v1 v2 : Int64} (hk : own_cap cap) (h0 : own_rg s0 cap) (h1 : own_rg s1 cap) (h2 : own_rg s2 cap) (g0 : own_vr v0) (g1 : own_vr v1) (g2 : own_vr v2) (hg : own_good cap s0 0 0 v0 0 0 false false false) : ¬ cap < f2 (0 : Int32) s0 s1 s2 ∧ f4 (0 : Int32) v0 v1 v2 = own_mx (1 : Int32) cap s0 s1 s2 v0 v1 v2 := by
  obtain ⟨-, -, -, hsz, hU⟩ := hg
  have hW : 0 ≤ own_wt v0 v1 v2 false false false := hU false false false hk.1
  obtain ⟨c1, c2⟩ := own_veq (n := (1 : Int32)) (k := (0 : Int32)) hk h0 h1 h2 g0 g1 g2 own_mk0 (by decide) hsz
  have w0 : (f3 (0 : Int32) (1 : Int32) cap s0 s1 s2 v0 v1 v2).toInt ≤ own_wt v0 v1 v2 false false false := own_vle hk h0 h1 h2 g0 g1 g2 own_mk0 hW (fun q hs => hU false false false hs)
  have w1 : (f3 (1 : Int32) (1 : Int32) cap s0 s1 s2 v0 v1 v2).toInt ≤ own_wt v0 v1 v2 false false false := own_vle hk h0 h1 h2 g0 g1 g2 own_mk1 hW (fun q hs => hU true false false hs)
  have w2 : (f3 (2 : Int32) (1 : Int32) cap s0 s1 s2 v0 v1 v2).toInt ≤ own_wt v0 v1 v2 false false false := own_vle hk h0 h1 h2 g0 g1 g2 own_mk2 hW (fun q hs => absurd q (by decide))
  have w3 : (f3 (3 : Int32) (1 : Int32) cap s0 s1 s2 v0 v1 v2).toInt ≤ own_wt v0 v1 v2 false false false := own_vle hk h0 h1 h2 g0 g1 g2 own_mk3 hW (fun q hs => absurd q (by decide))
  have w4 : (f3 (4 : Int32) (1 : Int32) cap s0 s1 s2 v0 v1 v2).toInt ≤ own_wt v0 v1 v2 false false false := own_vle hk h0 h1 h2 g0 g1 g2 own_mk4 hW (fun q hs => absurd q (by decide))
  have w5 : (f3 (5 : Int32) (1 : Int32) cap s0 s1 s2 v0 v1 v2).toInt ≤ own_wt v0 v1 v2 false false false := own_vle hk h0 h1 h2 g0 g1 g2 own_mk5 hW (fun q hs => absurd q (by decide))
  have w6 : (f3 (6 : Int32) (1 : Int32) cap s0 s1 s2 v0 v1 v2).toInt ≤ own_wt v0 v1 v2 false false false := own_vle hk h0 h1 h2 g0 g1 g2 own_mk6 hW (fun q hs => absurd q (by decide))
  have w7 : (f3 (7 : Int32) (1 : Int32) cap s0 s1 s2 v0 v1 v2).toInt ≤ own_wt v0 v1 v2 false false false := own_vle hk h0 h1 h2 g0 g1 g2 own_mk7 hW (fun q hs => absurd q (by decide))
  refine ⟨c1, Int64.toInt_inj.mp ?_⟩
  have z : (0 : Int64).toInt = 0 := rfl
  rw [own_wtf g0 g1 g2 own_mk0]
  unfold own_mx
  simp only [own_f5]
  omega
theorem own_end_1_1 {cap s0 s1 s2 : Int32} {v0 v1 v2 : Int64} (hk : own_cap cap) (h0 : own_rg s0 cap) (h1 : own_rg s1 cap) (h2 : own_rg s2 cap) (g0 : own_vr v0) (g1 : own_vr v1) (g2 : own_vr v2) (hg : own_good cap s0 0 0 v0 0 0 true false false) : ¬ cap < f2 (1 : Int32) s0 s1 s2 ∧ f4 (1 : Int32) v0 v1 v2 = own_mx (1 : Int32) cap s0 s1 s2 v0 v1 v2 := by
  obtain ⟨-, -, -, hsz, hU⟩ := hg
  have hW : 0 ≤ own_wt v0 v1 v2 true false false := hU false false false hk.1
  obtain ⟨c1, c2⟩ := own_veq (n := (1 : Int32)) (k := (1 : Int32)) hk h0 h1 h2 g0 g1 g2 own_mk1 (by decide) hsz
  have w0 : (f3 (0 : Int32) (1 : Int32) cap s0 s1 s2 v0 v1 v2).toInt ≤ own_wt v0 v1 v2 true false false := own_vle hk h0 h1 h2 g0 g1 g2 own_mk0 hW (fun q hs => hU false false false hs)
  have w1 : (f3 (1 : Int32) (1 : Int32) cap s0 s1 s2 v0 v1 v2).toInt ≤ own_wt v0 v1 v2 true false false := own_vle hk h0 h1 h2 g0 g1 g2 own_mk1 hW (fun q hs => hU true false false hs)
  have w2 : (f3 (2 : Int32) (1 : Int32) cap s0 s1 s2 v0 v1 v2).toInt ≤ own_wt v0 v1 v2 true false false := own_vle hk h0 h1 h2 g0 g1 g2 own_mk2 hW (fun q hs => absurd q (by decide))
  have w3 : (f3 (3 : Int32) (1 : Int32) cap s0 s1 s2 v0 v1 v2).toInt ≤ own_wt v0 v1 v2 true false false := own_vle hk h0 h1 h2 g0 g1 g2 own_mk3 hW (fun q hs => absurd q (by decide))
  have w4 : (f3 (4 : Int32) (1 : Int32) cap s0 s1 s2 v0 v1 v2).toInt ≤ own_wt v0 v1 v2 true false false := own_vle hk h0 h1 h2 g0 g1 g2 own_mk4 hW (fun q hs => absurd q (by decide))
  have w5 : (f3 (5 : Int32) (1 : Int32) cap s0 s1 s2 v0 v1 v2).toInt ≤ own_wt v0 v1 v2 true false false := own_vle hk h0 h1 h2 g0 g1 g2 own_mk5 hW (fun q hs => absurd q (by decide))
  have w6 : (f3 (6 : Int32) (1 : Int32) cap s0 s1 s2 v0 v1 v2).toInt ≤ own_wt v0 v1 v2 true false false := own_vle hk h0 h1 h2 g0 g1 g2 own_mk6 hW (fun q hs => absurd q (by decide))
  have w7 : (f3 (7 : Int32) (1 : Int32) cap s0 s1 s2 v0 v1 v2).toInt ≤ own_wt v0 v1 v2 true false false := own_vle hk h0 h1 h2 g0 g1 g2 own_mk7 hW (fun q hs => absurd q (by decide))
  refine ⟨c1, Int64.toInt_inj.mp ?_⟩
  have z : (0 : Int64).toInt = 0 := rfl
  rw [own_wtf g0 g1 g2 own_mk1]
  unfold own_mx
  simp only [own_f5]
  omega
theorem own_end_2_0 {cap s0 s1 s2 : Int32} {v0 v1 v2 : Int64} (hk : own_cap cap) (h0 : own_rg s0 cap) (h1 : own_rg s1 cap) (h2 : own_rg s2 cap) (g0 : own_vr v0) (g1 : own_vr v1) (g2 : own_vr v2) (hg : own_good cap s0 s1 0 v0 v1 0 false false false) : ¬ cap < f2 (0 : Int32) s0 s1 s2 ∧ f4 (0 : Int32) v0 v1 v2 = own_mx (2 : Int32) cap s0 s1 s2 v0 v1 v2 := by
  obtain ⟨-, -, -, hsz, hU⟩ := hg
  have hW : 0 ≤ own_wt v0 v1 v2 false false false := hU false false false hk.1
  obtain ⟨c1, c2⟩ := own_veq (n := (2 : Int32)) (k := (0 : Int32)) hk h0 h1 h2 g0 g1 g2 own_mk0 (by decide) hsz
  have w0 : (f3 (0 : Int32) (2 : Int32) cap s0 s1 s2 v0 v1 v2).toInt ≤ own_wt v0 v1 v2 false false false := own_vle hk h0 h1 h2 g0 g1 g2 own_mk0 hW (fun q hs => hU false false false hs)
  have w1 : (f3 (1 : Int32) (2 : Int32) cap s0 s1 s2 v0 v1 v2).toInt ≤ own_wt v0 v1 v2 false false false := own_vle hk h0 h1 h2 g0 g1 g2 own_mk1 hW (fun q hs => hU true false false hs)
  have w2 : (f3 (2 : Int32) (2 : Int32) cap s0 s1 s2 v0 v1 v2).toInt ≤ own_wt v0 v1 v2 false false false := own_vle hk h0 h1 h2 g0 g1 g2 own_mk2 hW (fun q hs => hU false true false hs)
  have w3 : (f3 (3 : Int32) (2 : Int32) cap s0 s1 s2 v0 v1 v2).toInt ≤ own_wt v0 v1 v2 false false false := own_vle hk h0 h1 h2 g0 g1 g2 own_mk3 hW (fun q hs => hU true true false hs)
  have w4 : (f3 (4 : Int32) (2 : Int32) cap s0 s1 s2 v0 v1 v2).toInt ≤ own_wt v0 v1 v2 false false false := own_vle hk h0 h1 h2 g0 g1 g2 own_mk4 hW (fun q hs => absurd q (by decide))
  have w5 : (f3 (5 : Int32) (2 : Int32) cap s0 s1 s2 v0 v1 v2).toInt ≤ own_wt v0 v1 v2 false false false := own_vle hk h0 h1 h2 g0 g1 g2 own_mk5 hW (fun q hs => absurd q (by decide))
  have w6 : (f3 (6 : Int32) (2 : Int32) cap s0 s1 s2 v0 v1 v2).toInt ≤ own_wt v0 v1 v2 false false false := own_vle hk h0 h1 h2 g0 g1 g2 own_mk6 hW (fun q hs => absurd q (by decide))
  have w7 : (f3 (7 : Int32) (2 : Int32) cap s0 s1 s2 v0 v1 v2).toInt ≤ own_wt v0 v1 v2 false false false := own_vle hk h0 h1 h2 g0 g1 g2 own_mk7 hW (fun q hs => absurd q (by decide))
  refine ⟨c1, Int64.toInt_inj.mp ?_⟩
  have z : (0 : Int64).toInt = 0 := rfl
  rw [own_wtf g0 g1 g2 own_mk0]
  unfold own_mx
  simp only [own_f5]
  omega
theorem own_end_2_1 {cap s0 s1 s2 : Int32} {v0 v1 v2 : Int64} (hk : own_cap cap) (h0 : own_rg s0 cap) (h1 : own_rg s1 cap) (h2 : own_rg s2 cap) (g0 : own_vr v0) (g1 : own_vr v1) (g2 : own_vr v2) (hg : own_good cap s0 s1 0 v0 v1 0 true false false) : ¬ cap < f2 (1 : Int32) s0 s1 s2 ∧ f4 (1 : Int32) v0 v1 v2 = own_mx (2 : Int32) cap s0 s1 s2 v0 v1 v2 := by
  obtain ⟨-, -, -, hsz, hU⟩ := hg
  have hW : 0 ≤ own_wt v0 v1 v2 true false false := hU false false false hk.1
  obtain ⟨c1, c2⟩ := own_veq (n := (2 : Int32)) (k := (1 : Int32)) hk h0 h1 h2 g0 g1 g2 own_mk1 (by decide) hsz
  have w0 : (f3 (0 : Int32) (2 : Int32) cap s0 s1 s2 v0 v1 v2).toInt ≤ own_wt v0 v1 v2 true false false := own_vle hk h0 h1 h2 g0 g1 g2 own_mk0 hW (fun q hs => hU false false false hs)
  have w1 : (f3 (1 : Int32) (2 : Int32) cap s0 s1 s2 v0 v1 v2).toInt ≤ own_wt v0 v1 v2 true false false := own_vle hk h0 h1 h2 g0 g1 g2 own_mk1 hW (fun q hs => hU true false false hs)
  have w2 : (f3 (2 : Int32) (2 : Int32) cap s0 s1 s2 v0 v1 v2).toInt ≤ own_wt v0 v1 v2 true false false := own_vle hk h0 h1 h2 g0 g1 g2 own_mk2 hW (fun q hs => hU false true false hs)
  have w3 : (f3 (3 : Int32) (2 : Int32) cap s0 s1 s2 v0 v1 v2).toInt ≤ own_wt v0 v1 v2 true false false := own_vle hk h0 h1 h2 g0 g1 g2 own_mk3 hW (fun q hs => hU true true false hs)
  have w4 : (f3 (4 : Int32) (2 : Int32) cap s0 s1 s2 v0 v1 v2).toInt ≤ own_wt v0 v1 v2 true false false := own_vle hk h0 h1 h2 g0 g1 g2 own_mk4 hW (fun q hs => absurd q (by decide))
  have w5 : (f3 (5 : Int32) (2 : Int32) cap s0 s1 s2 v0 v1 v2).toInt ≤ own_wt v0 v1 v2 true false false := own_vle hk h0 h1 h2 g0 g1 g2 own_mk5 hW (fun q hs => absurd q (by decide))
  have w6 : (f3 (6 : Int32) (2 : Int32) cap s0 s1 s2 v0 v1 v2).toInt ≤ own_wt v0 v1 v2 true false false := own_vle hk h0 h1 h2 g0 g1 g2 own_mk6 hW (fun q hs => absurd q (by decide))
  have w7 : (f3 (7 : Int32) (2 : Int32) cap s0 s1 s2 v0 v1 v2).toInt ≤ own_wt v0 v1 v2 true false false := own_vle hk h0 h1 h2 g0 g1 g2 own_mk7 hW (fun q hs => absurd q (by decide))
  refine ⟨c1, Int64.toInt_inj.mp ?_⟩
  have z : (0 : Int64).toInt = 0 := rfl
  rw [own_wtf g0 g1 g2 own_mk1]
  unfold own_mx
  simp only [own_f5]
  omega
theorem own_end_2_2 {cap s0 s1 s2 : Int32} {v0 v1 v2 : Int64} (hk : own_cap cap) (h0 : own_rg s0 cap) (h1 : own_rg s1 cap) (h2 : own_rg s2 cap) (g0 : own_vr v0) (g1 : own_vr v1) (g2 : own_vr v2) (hg : own_good cap s0 s1 0 v0 v1 0 false true false) : ¬ cap < f2 (2 : Int32) s0 s1 s2 ∧ f4 (2 : Int32) v0 v1 v2 = own_mx (2 : Int32) cap s0 s1 s2 v0 v1 v2 := by
  obtain ⟨-, -, -, hsz, hU⟩ := hg
  have hW : 0 ≤ own_wt v0 v1 v2 false true false := hU false false false hk.1
  obtain ⟨c1, c2⟩ := own_veq (n := (2 : Int32)) (k := (2 : Int32)) hk h0 h1 h2 g0 g1 g2 own_mk2 (by decide) hsz
  have w0 : (f3 (0 : Int32) (2 : Int32) cap s0 s1 s2 v0 v1 v2).toInt ≤ own_wt v0 v1 v2 false true false := own_vle hk h0 h1 h2 g0 g1 g2 own_mk0 hW (fun q hs => hU false false false hs)
  have w1 : (f3 (1 : Int32) (2 : Int32) cap s0 s1 s2 v0 v1 v2).toInt ≤ own_wt v0 v1 v2 false true false := own_vle hk h0 h1 h2 g0 g1 g2 own_mk1 hW (fun q hs => hU true false false hs)
  have w2 : (f3 (2 : Int32) (2 : Int32) cap s0 s1 s2 v0 v1 v2).toInt ≤ own_wt v0 v1 v2 false true false := own_vle hk h0 h1 h2 g0 g1 g2 own_mk2 hW (fun q hs => hU false true false hs)
  have w3 : (f3 (3 : Int32) (2 : Int32) cap s0 s1 s2 v0 v1 v2).toInt ≤ own_wt v0 v1 v2 false true false := own_vle hk h0 h1 h2 g0 g1 g2 own_mk3 hW (fun q hs => hU true true false hs)
  have w4 : (f3 (4 : Int32) (2 : Int32) cap s0 s1 s2 v0 v1 v2).toInt ≤ own_wt v0 v1 v2 false true false := own_vle hk h0 h1 h2 g0 g1 g2 own_mk4 hW (fun q hs => absurd q (by decide))
  have w5 : (f3 (5 : Int32) (2 : Int32) cap s0 s1 s2 v0 v1 v2).toInt ≤ own_wt v0 v1 v2 false true false := own_vle hk h0 h1 h2 g0 g1 g2 own_mk5 hW (fun q hs => absurd q (by decide))
  have w6 : (f3 (6 : Int32) (2 : Int32) cap s0 s1 s2 v0 v1 v2).toInt ≤ own_wt v0 v1 v2 false true false := own_vle hk h0 h1 h2 g0 g1 g2 own_mk6 hW (fun q hs => absurd q (by decide))
  have w7 : (f3 (7 : Int32) (2 : Int32) cap s0 s1 s2 v0 v1 v2).toInt ≤ own_wt v0 v1 v2 false true false := own_vle hk h0 h1 h2 g0 g1 g2 own_mk7 hW (fun q hs => absurd q (by decide))
  refine ⟨c1, Int64.toInt_inj.mp ?_⟩
  have z : (0 : Int64).toInt = 0 := rfl
  rw [own_wtf g0 g1 g2 own_mk2]
  unfold own_mx
  simp only [own_f5]
  omega
theorem own_end_2_3 {cap s0 s1 s2 : Int32} {v0 v1 v2 : Int64} (hk : own_cap cap) (h0 : own_rg s0 cap) (h1 : own_rg s1 cap) (h2 : own_rg s2 cap) (g0 : own_vr v0) (g1 : own_vr v1) (g2 : own_vr v2) (hg : own_good cap s0 s1 0 v0 v1 0 true true false) : ¬ cap < f2 (3 : Int32) s0 s1 s2 ∧ f4 (3 : Int32) v0 v1 v2 = own_mx (2 : Int32) cap s0 s1 s2 v0 v1 v2 := by
  obtain ⟨-, -, -, hsz, hU⟩ := hg
  have hW : 0 ≤ own_wt v0 v1 v2 true true false := hU false false false hk.1
  obtain ⟨c1, c2⟩ := own_veq (n := (2 : Int32)) (k := (3 : Int32)) hk h0 h1 h2 g0 g1 g2 own_mk3 (by decide) hsz
  have w0 : (f3 (0 : Int32) (2 : Int32) cap s0 s1 s2 v0 v1 v2).toInt ≤ own_wt v0 v1 v2 true true false := own_vle hk h0 h1 h2 g0 g1 g2 own_mk0 hW (fun q hs => hU false false false hs)
  have w1 : (f3 (1 : Int32) (2 : Int32) cap s0 s1 s2 v0 v1 v2).toInt ≤ own_wt v0 v1 v2 true true false := own_vle hk h0 h1 h2 g0 g1 g2 own_mk1 hW (fun q hs => hU true false false hs)
  have w2 : (f3 (2 : Int32) (2 : Int32) cap s0 s1 s2 v0 v1 v2).toInt ≤ own_wt v0 v1 v2 true true false := own_vle hk h0 h1 h2 g0 g1 g2 own_mk2 hW (fun q hs => hU false true false hs)
  have w3 : (f3 (3 : Int32) (2 : Int32) cap s0 s1 s2 v0 v1 v2).toInt ≤ own_wt v0 v1 v2 true true false := own_vle hk h0 h1 h2 g0 g1 g2 own_mk3 hW (fun q hs => hU true true false hs)
  have w4 : (f3 (4 : Int32) (2 : Int32) cap s0 s1 s2 v0 v1 v2).toInt ≤ own_wt v0 v1 v2 true true false := own_vle hk h0 h1 h2 g0 g1 g2 own_mk4 hW (fun q hs => absurd q (by decide))
  have w5 : (f3 (5 : Int32) (2 : Int32) cap s0 s1 s2 v0 v1 v2).toInt ≤ own_wt v0 v1 v2 true true false := own_vle hk h0 h1 h2 g0 g1 g2 own_mk5 hW (fun q hs => absurd q (by decide))
  have w6 : (f3 (6 : Int32) (2 : Int32) cap s0 s1 s2 v0 v1 v2).toInt ≤ own_wt v0 v1 v2 true true false := own_vle hk h0 h1 h2 g0 g1 g2 own_mk6 hW (fun q hs => absurd q (by decide))
  have w7 : (f3 (7 : Int32) (2 : Int32) cap s0 s1 s2 v0 v1 v2).toInt ≤ own_wt v0 v1 v2 true true false := own_vle hk h0 h1 h2 g0 g1 g2 own_mk7 hW (fun q hs => absurd q (by decide))
  refine ⟨c1, Int64.toInt_inj.mp ?_⟩
  have z : (0 : Int64).toInt = 0 := rfl
  rw [own_wtf g0 g1 g2 own_mk3]
  unfold own_mx
  simp only [own_f5]
  omega
theorem own_end_3_0 {cap s0 s1 s2 : Int32} {v0 v1 v2 : Int64} (hk : own_cap cap) (h0 : own_rg s0 cap) (h1 : own_rg s1 cap) (h2 : own_rg s2 cap) (g0 : own_vr v0) (g1 : own_vr v1) (g2 : own_vr v2) (hg : own_good cap s0 s1 s2 v0 v1 v2 false false false) : ¬ cap < f2 (0 : Int32) s0 s1 s2 ∧ f4 (0 : Int32) v0 v1 v2 = own_mx (3 : Int32) cap s0 s1 s2 v0 v1 v2 := by
  obtain ⟨-, -, -, hsz, hU⟩ := hg
  have hW : 0 ≤ own_wt v0 v1 v2 false false false := hU false false false hk.1
  obtain ⟨c1, c2⟩ := own_veq (n := (3 : Int32)) (k := (0 : Int32)) hk h0 h1 h2 g0 g1 g2 own_mk0 (by decide) hsz
  have w0 : (f3 (0 : Int32) (3 : Int32) cap s0 s1 s2 v0 v1 v2).toInt ≤ own_wt v0 v1 v2 false false false := own_vle hk h0 h1 h2 g0 g1 g2 own_mk0 hW (fun q hs => hU false false false hs)
  have w1 : (f3 (1 : Int32) (3 : Int32) cap s0 s1 s2 v0 v1 v2).toInt ≤ own_wt v0 v1 v2 false false false := own_vle hk h0 h1 h2 g0 g1 g2 own_mk1 hW (fun q hs => hU true false false hs)
  have w2 : (f3 (2 : Int32) (3 : Int32) cap s0 s1 s2 v0 v1 v2).toInt ≤ own_wt v0 v1 v2 false false false := own_vle hk h0 h1 h2 g0 g1 g2 own_mk2 hW (fun q hs => hU false true false hs)
  have w3 : (f3 (3 : Int32) (3 : Int32) cap s0 s1 s2 v0 v1 v2).toInt ≤ own_wt v0 v1 v2 false false false := own_vle hk h0 h1 h2 g0 g1 g2 own_mk3 hW (fun q hs => hU true true false hs)
  have w4 : (f3 (4 : Int32) (3 : Int32) cap s0 s1 s2 v0 v1 v2).toInt ≤ own_wt v0 v1 v2 false false false := own_vle hk h0 h1 h2 g0 g1 g2 own_mk4 hW (fun q hs => hU false false true hs)
  have w5 : (f3 (5 : Int32) (3 : Int32) cap s0 s1 s2 v0 v1 v2).toInt ≤ own_wt v0 v1 v2 false false false := own_vle hk h0 h1 h2 g0 g1 g2 own_mk5 hW (fun q hs => hU true false true hs)
  have w6 : (f3 (6 : Int32) (3 : Int32) cap s0 s1 s2 v0 v1 v2).toInt ≤ own_wt v0 v1 v2 false false false := own_vle hk h0 h1 h2 g0 g1 g2 own_mk6 hW (fun q hs => hU false true true hs)
  have w7 : (f3 (7 : Int32) (3 : Int32) cap s0 s1 s2 v0 v1 v2).toInt ≤ own_wt v0 v1 v2 false false false := own_vle hk h0 h1 h2 g0 g1 g2 own_mk7 hW (fun q hs => hU true true true hs)
  refine ⟨c1, Int64.toInt_inj.mp ?_⟩
  have z : (0 : Int64).toInt = 0 := rfl
  rw [own_wtf g0 g1 g2 own_mk0]
  unfold own_mx
  simp only [own_f5]
  omega
theorem own_end_3_1 {cap s0 s1 s2 : Int32} {v0 v1 v2 : Int64} (hk : own_cap cap) (h0 : own_rg s0 cap) (h1 : own_rg s1 cap) (h2 : own_rg s2 cap) (g0 : own_vr v0) (g1 : own_vr v1) (g2 : own_vr v2) (hg : own_good cap s0 s1 s2 v0 v1 v2 true false false) : ¬ cap < f2 (1 : Int32) s0 s1 s2 ∧ f4 (1 : Int32) v0 v1 v2 = own_mx (3 : Int32) cap s0 s1 s2 v0 v1 v2 := by
  obtain ⟨-, -, -, hsz, hU⟩ := hg
  have hW : 0 ≤ own_wt v0 v1 v2 true false false := hU false false false hk.1
  obtain ⟨c1, c2⟩ := own_veq (n := (3 : Int32)) (k := (1 : Int32)) hk h0 h1 h2 g0 g1 g2 own_mk1 (by decide) hsz
  have w0 : (f3 (0 : Int32) (3 : Int32) cap s0 s1 s2 v0 v1 v2).toInt ≤ own_wt v0 v1 v2 true false false := own_vle hk h0 h1 h2 g0 g1 g2 own_mk0 hW (fun q hs => hU false false false hs)
  have w1 : (f3 (1 : Int32) (3 : Int32) cap s0 s1 s2 v0 v1 v2).toInt ≤ own_wt v0 v1 v2 true false false := own_vle hk h0 h1 h2 g0 g1 g2 own_mk1 hW (fun q hs => hU true false false hs)
  have w2 : (f3 (2 : Int32) (3 : Int32) cap s0 s1 s2 v0 v1 v2).toInt ≤ own_wt v0 v1 v2 true false false := own_vle hk h0 h1 h2 g0 g1 g2 own_mk2 hW (fun q hs => hU false true false hs)
  have w3 : (f3 (3 : Int32) (3 : Int32) cap s0 s1 s2 v0 v1 v2).toInt ≤ own_wt v0 v1 v2 true false false := own_vle hk h0 h1 h2 g0 g1 g2 own_mk3 hW (fun q hs => hU true true false hs)
  have w4 : (f3 (4 : Int32) (3 : Int32) cap s0 s1 s2 v0 v1 v2).toInt ≤ own_wt v0 v1 v2 true false false := own_vle hk h0 h1 h2 g0 g1 g2 own_mk4 hW (fun q hs => hU false false true hs)
  have w5 : (f3 (5 : Int32) (3 : Int32) cap s0 s1 s2 v0 v1 v2).toInt ≤ own_wt v0 v1 v2 true false false := own_vle hk h0 h1 h2 g0 g1 g2 own_mk5 hW (fun q hs => hU true false true hs)
  have w6 : (f3 (6 : Int32) (3 : Int32) cap s0 s1 s2 v0 v1 v2).toInt ≤ own_wt v0 v1 v2 true false false := own_vle hk h0 h1 h2 g0 g1 g2 own_mk6 hW (fun q hs => hU false true true hs)
  have w7 : (f3 (7 : Int32) (3 : Int32) cap s0 s1 s2 v0 v1 v2).toInt ≤ own_wt v0 v1 v2 true false false := own_vle hk h0 h1 h2 g0 g1 g2 own_mk7 hW (fun q hs => hU true true true hs)
  refine ⟨c1, Int64.toInt_inj.mp ?_⟩
  have z : (0 : Int64).toInt = 0 := rfl
  rw [own_wtf g0 g1 g2 own_mk1]
  unfold own_mx
  simp only [own_f5]
  omega
theorem own_end_3_2 {cap s0 s1 s2 : Int32} {v0 v1 v2 : Int64} (hk : own_cap cap) (h0 : own_rg s0 cap) (h1 : own_rg s1 cap) (h2 : own_rg s2 cap) (g0 : own_vr v0) (g1 : own_vr v1) (g2 : own_vr v2) (hg : own_good cap s0 s1 s2 v0 v1 v2 false true false) : ¬ cap < f2 (2 : Int32) s0 s1 s2 ∧ f4 (2 : Int32) v0 v1 v2 = own_mx (3 : Int32) cap s0 s1 s2 v0 v1 v2 := by
  obtain ⟨-, -, -, hsz, hU⟩ := hg
  have hW : 0 ≤ own_wt v0 v1 v2 false true false := hU false false false hk.1
  obtain ⟨c1, c2⟩ := own_veq (n := (3 : Int32)) (k := (2 : Int32)) hk h0 h1 h2 g0 g1 g2 own_mk2 (by decide) hsz
  have w0 : (f3 (0 : Int32) (3 : Int32) cap s0 s1 s2 v0 v1 v2).toInt ≤ own_wt v0 v1 v2 false true false := own_vle hk h0 h1 h2 g0 g1 g2 own_mk0 hW (fun q hs => hU false false false hs)
  have w1 : (f3 (1 : Int32) (3 : Int32) cap s0 s1 s2 v0 v1 v2).toInt ≤ own_wt v0 v1 v2 false true false := own_vle hk h0 h1 h2 g0 g1 g2 own_mk1 hW (fun q hs => hU true false false hs)
  have w2 : (f3 (2 : Int32) (3 : Int32) cap s0 s1 s2 v0 v1 v2).toInt ≤ own_wt v0 v1 v2 false true false := own_vle hk h0 h1 h2 g0 g1 g2 own_mk2 hW (fun q hs => hU false true false hs)
  have w3 : (f3 (3 : Int32) (3 : Int32) cap s0 s1 s2 v0 v1 v2).toInt ≤ own_wt v0 v1 v2 false true false := own_vle hk h0 h1 h2 g0 g1 g2 own_mk3 hW (fun q hs => hU true true false hs)
  have w4 : (f3 (4 : Int32) (3 : Int32) cap s0 s1 s2 v0 v1 v2).toInt ≤ own_wt v0 v1 v2 false true false := own_vle hk h0 h1 h2 g0 g1 g2 own_mk4 hW (fun q hs => hU false false true hs)
  have w5 : (f3 (5 : Int32) (3 : Int32) cap s0 s1 s2 v0 v1 v2).toInt ≤ own_wt v0 v1 v2 false true false := own_vle hk h0 h1 h2 g0 g1 g2 own_mk5 hW (fun q hs => hU true false true hs)
  have w6 : (f3 (6 : Int32) (3 : Int32) cap s0 s1 s2 v0 v1 v2).toInt ≤ own_wt v0 v1 v2 false true false := own_vle hk h0 h1 h2 g0 g1 g2 own_mk6 hW (fun q hs => hU false true true hs)
  have w7 : (f3 (7 : Int32) (3 : Int32) cap s0 s1 s2 v0 v1 v2).toInt ≤ own_wt v0 v1 v2 false true false := own_vle hk h0 h1 h2 g0 g1 g2 own_mk7 hW (fun q hs => hU true true true hs)
  refine ⟨c1, Int64.toInt_inj.mp ?_⟩
  have z : (0 : Int64).toInt = 0 := rfl
  rw [own_wtf g0 g1 g2 own_mk2]
  unfold own_mx
  simp only [own_f5]
  omega
theorem own_end_3_3 {cap s0 s1 s2 : Int32} {v0 v1 v2 : Int64} (hk : own_cap cap) (h0 : own_rg s0 cap) (h1 : own_rg s1 cap) (h2 : own_rg s2 cap) (g0 : own_vr v0) (g1 : own_vr v1) (g2 : own_vr v2) (hg : own_good cap s0 s1 s2 v0 v1 v2 true true false) : ¬ cap < f2 (3 : Int32) s0 s1 s2 ∧ f4 (3 : Int32) v0 v1 v2 = own_mx (3 : Int32) cap s0 s1 s2 v0 v1 v2 := by
  obtain ⟨-, -, -, hsz, hU⟩ := hg
  have hW : 0 ≤ own_wt v0 v1 v2 true true false := hU false false false hk.1
  obtain ⟨c1, c2⟩ := own_veq (n := (3 : Int32)) (k := (3 : Int32)) hk h0 h1 h2 g0 g1 g2 own_mk3 (by decide) hsz
  have w0 : (f3 (0 : Int32) (3 : Int32) cap s0 s1 s2 v0 v1 v2).toInt ≤ own_wt v0 v1 v2 true true false := own_vle hk h0 h1 h2 g0 g1 g2 own_mk0 hW (fun q hs => hU false false false hs)
  have w1 : (f3 (1 : Int32) (3 : Int32) cap s0 s1 s2 v0 v1 v2).toInt ≤ own_wt v0 v1 v2 true true false := own_vle hk h0 h1 h2 g0 g1 g2 own_mk1 hW (fun q hs => hU true false false hs)
  have w2 : (f3 (2 : Int32) (3 : Int32) cap s0 s1 s2 v0 v1 v2).toInt ≤ own_wt v0 v1 v2 true true false := own_vle hk h0 h1 h2 g0 g1 g2 own_mk2 hW (fun q hs => hU false true false hs)
  have w3 : (f3 (3 : Int32) (3 : Int32) cap s0 s1 s2 v0 v1 v2).toInt ≤ own_wt v0 v1 v2 true true false := own_vle hk h0 h1 h2 g0 g1 g2 own_mk3 hW (fun q hs => hU true true false hs)
  have w4 : (f3 (4 : Int32) (3 : Int32) cap s0 s1 s2 v0 v1 v2).toInt ≤ own_wt v0 v1 v2 true true false := own_vle hk h0 h1 h2 g0 g1 g2 own_mk4 hW (fun q hs => hU false false true hs)
  have w5 : (f3 (5 : Int32) (3 : Int32) cap s0 s1 s2 v0 v1 v2).toInt ≤ own_wt v0 v1 v2 true true false := own_vle hk h0 h1 h2 g0 g1 g2 own_mk5 hW (fun q hs => hU true false true hs)
  have w6 : (f3 (6 : Int32) (3 : Int32) cap s0 s1 s2 v0 v1 v2).toInt ≤ own_wt v0 v1 v2 true true false := own_vle hk h0 h1 h2 g0 g1 g2 own_mk6 hW (fun q hs => hU false true true hs)
  have w7 : (f3 (7 : Int32) (3 : Int32) cap s0 s1 s2 v0 v1 v2).toInt ≤ own_wt v0 v1 v2 true true false := own_vle hk h0 h1 h2 g0 g1 g2 own_mk7 hW (fun q hs => hU true true true hs)
  refine ⟨c1, Int64.toInt_inj.mp ?_⟩
  have z : (0 : Int64).toInt = 0 := rfl
  rw [own_wtf g0 g1 g2 own_mk3]
  unfold own_mx
  simp only [own_f5]
  omega
theorem own_end_3_4 {cap s0 s1 s2 : Int32} {v0 v1 v2 : Int64} (hk : own_cap cap) (h0 : own_rg s0 cap) (h1 : own_rg s1 cap) (h2 : own_rg s2 cap) (g0 : own_vr v0) (g1 : own_vr v1) (g2 : own_vr v2) (hg : own_good cap s0 s1 s2 v0 v1 v2 false false true) : ¬ cap < f2 (4 : Int32) s0 s1 s2 ∧ f4 (4 : Int32) v0 v1 v2 = own_mx (3 : Int32) cap s0 s1 s2 v0 v1 v2 := by
  obtain ⟨-, -, -, hsz, hU⟩ := hg
  have hW : 0 ≤ own_wt v0 v1 v2 false false true := hU false false false hk.1
  obtain ⟨c1, c2⟩ := own_veq (n := (3 : Int32)) (k := (4 : Int32)) hk h0 h1 h2 g0 g1 g2 own_mk4 (by decide) hsz
  have w0 : (f3 (0 : Int32) (3 : Int32) cap s0 s1 s2 v0 v1 v2).toInt ≤ own_wt v0 v1 v2 false false true := own_vle hk h0 h1 h2 g0 g1 g2 own_mk0 hW (fun q hs => hU false false false hs)
  have w1 : (f3 (1 : Int32) (3 : Int32) cap s0 s1 s2 v0 v1 v2).toInt ≤ own_wt v0 v1 v2 false false true := own_vle hk h0 h1 h2 g0 g1 g2 own_mk1 hW (fun q hs => hU true false false hs)
  have w2 : (f3 (2 : Int32) (3 : Int32) cap s0 s1 s2 v0 v1 v2).toInt ≤ own_wt v0 v1 v2 false false true := own_vle hk h0 h1 h2 g0 g1 g2 own_mk2 hW (fun q hs => hU false true false hs)
  have w3 : (f3 (3 : Int32) (3 : Int32) cap s0 s1 s2 v0 v1 v2).toInt ≤ own_wt v0 v1 v2 false false true := own_vle hk h0 h1 h2 g0 g1 g2 own_mk3 hW (fun q hs => hU true true false hs)
  have w4 : (f3 (4 : Int32) (3 : Int32) cap s0 s1 s2 v0 v1 v2).toInt ≤ own_wt v0 v1 v2 false false true := own_vle hk h0 h1 h2 g0 g1 g2 own_mk4 hW (fun q hs => hU false false true hs)
  have w5 : (f3 (5 : Int32) (3 : Int32) cap s0 s1 s2 v0 v1 v2).toInt ≤ own_wt v0 v1 v2 false false true := own_vle hk h0 h1 h2 g0 g1 g2 own_mk5 hW (fun q hs => hU true false true hs)
  have w6 : (f3 (6 : Int32) (3 : Int32) cap s0 s1 s2 v0 v1 v2).toInt ≤ own_wt v0 v1 v2 false false true := own_vle hk h0 h1 h2 g0 g1 g2 own_mk6 hW (fun q hs => hU false true true hs)
  have w7 : (f3 (7 : Int32) (3 : Int32) cap s0 s1 s2 v0 v1 v2).toInt ≤ own_wt v0 v1 v2 false false true := own_vle hk h0 h1 h2 g0 g1 g2 own_mk7 hW (fun q hs => hU true true true hs)
  refine ⟨c1, Int64.toInt_inj.mp ?_⟩
  have z : (0 : Int64).toInt = 0 := rfl
  rw [own_wtf g0 g1 g2 own_mk4]
  unfold own_mx
  simp only [own_f5]
  omega
theorem own_end_3_5 {cap s0 s1 s2 : Int32} {v0 v1 v2 : Int64} (hk : own_cap cap) (h0 : own_rg s0 cap) (h1 : own_rg s1 cap) (h2 : own_rg s2 cap) (g0 : own_vr v0) (g1 : own_vr v1) (g2 : own_vr v2) (hg : own_good cap s0 s1 s2 v0 v1 v2 true false true) : ¬ cap < f2 (5 : Int32) s0 s1 s2 ∧ f4 (5 : Int32) v0 v1 v2 = own_mx (3 : Int32) cap s0 s1 s2 v0 v1 v2 := by
  obtain ⟨-, -, -, hsz, hU⟩ := hg
  have hW : 0 ≤ own_wt v0 v1 v2 true false true := hU false false false hk.1
  obtain ⟨c1, c2⟩ := own_veq (n := (3 : Int32)) (k := (5 : Int32)) hk h0 h1 h2 g0 g1 g2 own_mk5 (by decide) hsz
  have w0 : (f3 (0 : Int32) (3 : Int32) cap s0 s1 s2 v0 v1 v2).toInt ≤ own_wt v0 v1 v2 true false true := own_vle hk h0 h1 h2 g0 g1 g2 own_mk0 hW (fun q hs => hU false false false hs)
  have w1 : (f3 (1 : Int32) (3 : Int32) cap s0 s1 s2 v0 v1 v2).toInt ≤ own_wt v0 v1 v2 true false true := own_vle hk h0 h1 h2 g0 g1 g2 own_mk1 hW (fun q hs => hU true false false hs)
  have w2 : (f3 (2 : Int32) (3 : Int32) cap s0 s1 s2 v0 v1 v2).toInt ≤ own_wt v0 v1 v2 true false true := own_vle hk h0 h1 h2 g0 g1 g2 own_mk2 hW (fun q hs => hU false true false hs)
  have w3 : (f3 (3 : Int32) (3 : Int32) cap s0 s1 s2 v0 v1 v2).toInt ≤ own_wt v0 v1 v2 true false true := own_vle hk h0 h1 h2 g0 g1 g2 own_mk3 hW (fun q hs => hU true true false hs)
  have w4 : (f3 (4 : Int32) (3 : Int32) cap s0 s1 s2 v0 v1 v2).toInt ≤ own_wt v0 v1 v2 true false true := own_vle hk h0 h1 h2 g0 g1 g2 own_mk4 hW (fun q hs => hU false false true hs)
  have w5 : (f3 (5 : Int32) (3 : Int32) cap s0 s1 s2 v0 v1 v2).toInt ≤ own_wt v0 v1 v2 true false true := own_vle hk h0 h1 h2 g0 g1 g2 own_mk5 hW (fun q hs => hU true false true hs)
  have w6 : (f3 (6 : Int32) (3 : Int32) cap s0 s1 s2 v0 v1 v2).toInt ≤ own_wt v0 v1 v2 true false true := own_vle hk h0 h1 h2 g0 g1 g2 own_mk6 hW (fun q hs => hU false true true hs)
  have w7 : (f3 (7 : Int32) (3 : Int32) cap s0 s1 s2 v0 v1 v2).toInt ≤ own_wt v0 v1 v2 true false true := own_vle hk h0 h1 h2 g0 g1 g2 own_mk7 hW (fun q hs => hU true true true hs)
  refine ⟨c1, Int64.toInt_inj.mp ?_⟩
  have z : (0 : Int64).toInt = 0 := rfl
  rw [own_wtf g0 g1 g2 own_mk5]
  unfold own_mx
  simp only [own_f5]
  omega
theorem own_end_3_6 {cap s0 s1 s2 : Int32} {v0 v1 v2 : Int64} (hk : own_cap cap) (h0 : own_rg s0 cap) (h1 : own_rg s1 cap) (h2 : own_rg s2 cap) (g0 : own_vr v0) (g1 : own_vr v1) (g2 : own_vr v2) (hg : own_good cap s0 s1 s2 v0 v1 v2 false true true) : ¬ cap < f2 (6 : Int32) s0 s1 s2 ∧ f4 (6 : Int32) v0 v1 v2 = own_mx (3 : Int32) cap s0 s1 s2 v0 v1 v2 := by
  obtain ⟨-, -, -, hsz, hU⟩ := hg
  have hW : 0 ≤ own_wt v0 v1 v2 false true true := hU false false false hk.1
  obtain ⟨c1, c2⟩ := own_veq (n := (3 : Int32)) (k := (6 : Int32)) hk h0 h1 h2 g0 g1 g2 own_mk6 (by decide) hsz
  have w0 : (f3 (0 : Int32) (3 : Int32) cap s0 s1 s2 v0 v1 v2).toInt ≤ own_wt v0 v1 v2 false true true := own_vle hk h0 h1 h2 g0 g1 g2 own_mk0 hW (fun q hs => hU false false false hs)
  have w1 : (f3 (1 : Int32) (3 : Int32) cap s0 s1 s2 v0 v1 v2).toInt ≤ own_wt v0 v1 v2 false true true := own_vle hk h0 h1 h2 g0 g1 g2 own_mk1 hW (fun q hs => hU true false false hs)
  have w2 : (f3 (2 : Int32) (3 : Int32) cap s0 s1 s2 v0 v1 v2).toInt ≤ own_wt v0 v1 v2 false true true := own_vle hk h0 h1 h2 g0 g1 g2 own_mk2 hW (fun q hs => hU false true false hs)
  have w3 : (f3 (3 : Int32) (3 : Int32) cap s0 s1 s2 v0 v1 v2).toInt ≤ own_wt v0 v1 v2 false true true := own_vle hk h0 h1 h2 g0 g1 g2 own_mk3 hW (fun q hs => hU true true false hs)
  have w4 : (f3 (4 : Int32) (3 : Int32) cap s0 s1 s2 v0 v1 v2).toInt ≤ own_wt v0 v1 v2 false true true := own_vle hk h0 h1 h2 g0 g1 g2 own_mk4 hW (fun q hs => hU false false true hs)
  have w5 : (f3 (5 : Int32) (3 : Int32) cap s0 s1 s2 v0 v1 v2).toInt ≤ own_wt v0 v1 v2 false true true := own_vle hk h0 h1 h2 g0 g1 g2 own_mk5 hW (fun q hs => hU true false true hs)
  have w6 : (f3 (6 : Int32) (3 : Int32) cap s0 s1 s2 v0 v1 v2).toInt ≤ own_wt v0 v1 v2 false true true := own_vle hk h0 h1 h2 g0 g1 g2 own_mk6 hW (fun q hs => hU false true true hs)
  have w7 : (f3 (7 : Int32) (3 : Int32) cap s0 s1 s2 v0 v1 v2).toInt ≤ own_wt v0 v1 v2 false true true := own_vle hk h0 h1 h2 g0 g1 g2 own_mk7 hW (fun q hs => hU true true true hs)
  refine ⟨c1, Int64.toInt_inj.mp ?_⟩
  have z : (0 : Int64).toInt = 0 := rfl
  rw [own_wtf g0 g1 g2 own_mk6]
  unfold own_mx
  simp only [own_f5]
  omega
theorem own_end_3_7 {cap s0 s1 s2 : Int32} {v0 v1 v2 : Int64} (hk : own_cap cap) (h0 : own_rg s0 cap) (h1 : own_rg s1 cap) (h2 : own_rg s2 cap) (g0 : own_vr v0) (g1 : own_vr v1) (g2 : own_vr v2) (hg : own_good cap s0 s1 s2 v0 v1 v2 true true true) : ¬ cap < f2 (7 : Int32) s0 s1 s2 ∧ f4 (7 : Int32) v0 v1 v2 = own_mx (3 : Int32) cap s0 s1 s2 v0 v1 v2 := by
  obtain ⟨-, -, -, hsz, hU⟩ := hg
  have hW : 0 ≤ own_wt v0 v1 v2 true true true := hU false false false hk.1
  obtain ⟨c1, c2⟩ := own_veq (n := (3 : Int32)) (k := (7 : Int32)) hk h0 h1 h2 g0 g1 g2 own_mk7 (by decide) hsz
  have w0 : (f3 (0 : Int32) (3 : Int32) cap s0 s1 s2 v0 v1 v2).toInt ≤ own_wt v0 v1 v2 true true true := own_vle hk h0 h1 h2 g0 g1 g2 own_mk0 hW (fun q hs => hU false false false hs)
  have w1 : (f3 (1 : Int32) (3 : Int32) cap s0 s1 s2 v0 v1 v2).toInt ≤ own_wt v0 v1 v2 true true true := own_vle hk h0 h1 h2 g0 g1 g2 own_mk1 hW (fun q hs => hU true false false hs)
  have w2 : (f3 (2 : Int32) (3 : Int32) cap s0 s1 s2 v0 v1 v2).toInt ≤ own_wt v0 v1 v2 true true true := own_vle hk h0 h1 h2 g0 g1 g2 own_mk2 hW (fun q hs => hU false true false hs)
  have w3 : (f3 (3 : Int32) (3 : Int32) cap s0 s1 s2 v0 v1 v2).toInt ≤ own_wt v0 v1 v2 true true true := own_vle hk h0 h1 h2 g0 g1 g2 own_mk3 hW (fun q hs => hU true true false hs)
  have w4 : (f3 (4 : Int32) (3 : Int32) cap s0 s1 s2 v0 v1 v2).toInt ≤ own_wt v0 v1 v2 true true true := own_vle hk h0 h1 h2 g0 g1 g2 own_mk4 hW (fun q hs => hU false false true hs)
  have w5 : (f3 (5 : Int32) (3 : Int32) cap s0 s1 s2 v0 v1 v2).toInt ≤ own_wt v0 v1 v2 true true true := own_vle hk h0 h1 h2 g0 g1 g2 own_mk5 hW (fun q hs => hU true false true hs)
  have w6 : (f3 (6 : Int32) (3 : Int32) cap s0 s1 s2 v0 v1 v2).toInt ≤ own_wt v0 v1 v2 true true true := own_vle hk h0 h1 h2 g0 g1 g2 own_mk6 hW (fun q hs => hU false true true hs)
  have w7 : (f3 (7 : Int32) (3 : Int32) cap s0 s1 s2 v0 v1 v2).toInt ≤ own_wt v0 v1 v2 true true true := own_vle hk h0 h1 h2 g0 g1 g2 own_mk7 hW (fun q hs => hU true true true hs)
  refine ⟨c1, Int64.toInt_inj.mp ?_⟩
  have z : (0 : Int64).toInt = 0 := rfl
  rw [own_wtf g0 g1 g2 own_mk7]
  unfold own_mx
  simp only [own_f5]
  omega

theorem own_capL (x : Int32) : own_cap (x &&& 15) := by
  have e : (x &&& 15).toInt = x.toInt % 2 ^ 4 := Jvm.Kit.i32_mask x 15 (k := 4) (by decide) (by decide)
  exact ⟨by omega, by omega⟩
theorem own_spnz (x : Int32) : ((x &&& 15) + 1) ≠ 0 := fun h => by
  have e := own_k1 (own_capL x)
  rw [h] at e
  have := (own_capL x).1
  have z : (0 : Int32).toInt = 0 := rfl
  omega
theorem own_rgL (x y : Int32) : own_rg ((y &&& 15) % ((x &&& 15) + 1)) (x &&& 15) := by
  have e : (y &&& 15).toInt = y.toInt % 2 ^ 4 := Jvm.Kit.i32_mask y 15 (k := 4) (by decide) (by decide)
  have k := own_k1 (own_capL x)
  have k0 := (own_capL x).1
  have e2 : ((y &&& 15) % ((x &&& 15) + 1)).toInt = (y &&& 15).toInt % ((x &&& 15) + 1).toInt := Jvm.Kit.i32_rem_nonneg (by omega)
  have a1 := Int.emod_nonneg (y &&& 15).toInt (b := ((x &&& 15) + 1).toInt) (by omega)
  have a2 := Int.emod_lt_of_pos (y &&& 15).toInt (b := ((x &&& 15) + 1).toInt) (by omega)
  exact ⟨by omega, by omega⟩
theorem own_vrL (x : Int32) : own_vr x.toInt64 := by
  have h1 := Int32.toInt_lt x
  have h2 := Int32.le_toInt x
  unfold own_vr
  rw [Int32.toInt_toInt64]
  omega

theorem pd_2 : parseMethodDescriptor "(IIIIIIJJJ)J" = some ⟨[.int, .int, .int, .int, .int, .int, .long, .long, .long], some .long⟩ := by decide +kernel
theorem pd_3 : parseMethodDescriptor "(JJ)J" = some ⟨[.long, .long], some .long⟩ := by decide +kernel
theorem pd_4 : parseMethodDescriptor "([I[JI)[I" = some ⟨[(.array .int), (.array .long), .int], some (.array .int)⟩ := by decide +kernel
abbrev Lq0 (p1 : Int32) (p2 : Int32) (p3 : Int32) (p4 : Int32) (ucap : Int32) (us0 : Int32) (us1 : Int32) (us2 : Int32) (x5 : Slot) (x15 : Slot) (x16 : Slot) (x17 : Slot) (x18 : Slot) (x19 : Slot) (x20 : Slot) (x21 : Slot) : Array Slot := #[.val (.int p1), .val (.int p2), .val (.int p3), .val (.int p4), .val (.int ucap), x5, .val (.int us0), .val (.int us1), .val (.int us2), .val (.long (p2.toInt64)), .second, .val (.long (p3.toInt64)), .second, .val (.long (p4.toInt64)), .second, x15, x16, x17, x18, x19, x20, x21, .unset]
theorem ef_0 (m : MethodId) (x0 : Int32) (x1 : Int32) (x2 : Int32) (x3 : Int32) : entryFrame m #[(.int x0), (.int x1), (.int x2), (.int x3)] maxLocals = mkF m 0 #[.val (.int x0), .val (.int x1), .val (.int x2), .val (.int x3), .unset, .unset, .unset, .unset, .unset, .unset, .unset, .unset, .unset, .unset, .unset, .unset, .unset, .unset, .unset, .unset, .unset, .unset, .unset] [] := by first | (simp [entryFrame, mkF, argsToLocals, Value.category, maxLocals]; done) | rfl
def Q0 (Z : State) (p1 : Int32) (p2 : Int32) (p3 : Int32) (p4 : Int32) (h0 : Heap) (n0 : Nat) (v : Option Value) (h : Heap) (L : List Loc) : Prop := v = some (.int (1 : Int32)) ∧ Fr n0 L
set_option maxRecDepth 65536 in
set_option maxHeartbeats 40000000 in
theorem rm0 (l : Launch) (Z : State) (a0 : Array Value) (hw : ∀ d ∈ tables_1, d.before a0 Z = true) (ws : List Jvm.Cond) (p1 : Int32) (p2 : Int32) (p3 : Int32) (p4 : Int32) (h0 : Heap) (n0 : Nat) (Z0 : n0 ≤ h0.size) :
    MetFree l x (head1 (Jvm.Cond.code x code maxLocals ret :: ws) room_1) (fun a U => a = #[(.int p1), (.int p2), (.int p3), (.int p4)] ∧ Z.Warmed39 U.vm ∧ U.heap = h0) (fun _ _ _ _ _ => True) (fun _ U o U' => ∃ v L, o = .returned v ∧ Q0 Z p1 p2 p3 p4 h0 n0 v U'.heap L ∧ FrameEnd U o U' L room_1.cells room_1.slots) := by
  refine MetFree.of_bodySF (plainFor_of_name pn_1) hisR ?_
  intro p e s m args below meth c s₁ Bd hml0 hP hK
  obtain ⟨rfl, hZ, hh⟩ := hP
  have hx := Bd.exec
  have hlk : meth.locks = false := by first | exact BodyLoose.notSynchronized Bd | exact Body.notSynchronized Bd
  have hby := Bd.bytes
  have hml : c.maxLocals = 23 := hml0
  have hown : s.vm.findClass "com/example/hindsight/hindsight/solvers/KnapsackHeaviestPinLaw" = some m.cls := findClass_of_methodNamed Bd.named
  have hnm := (name_of_methodNamed Bd.named Bd.method).1
  have X0 : Stand p l e room_1 s m #[(.int p1), (.int p2), (.int p3), (.int p4)] below meth c s₁ [] 0 0 := Stand.of_body Bd
  have e0 : s₁.heap = h0 := by rw [← hh, Bd.state]; rfl
  have N0 := Fr.nil n0
  have pre0 : ∀ t, Steps p.tables e below (s₁.setTop (mkF m 0 #[.val (.int p1), .val (.int p2), .val (.int p3), .val (.int p4), .unset, .unset, .unset, .unset, .unset, .unset, .unset, .unset, .unset, .unset, .unset, .unset, .unset, .unset, .unset, .unset, .unset, .unset, .unset] [])) t → Steps p.tables e below (s₁.setTop (entryFrame m #[(.int p1), (.int p2), (.int p3), (.int p4)] maxLocals)) t := fun t k => castTop (ef_0 m p1 p2 p3 p4) k
  have pre1 : ∀ t, Steps p.tables e below (s₁.setTop (mkF m 67 #[(kI p1), (kI p2), (kI p3), (kI p4), (kI (p1 &&& (15 : Int32))), (kI (((p1.toUInt32 >>> ((16 : Int32) &&& 31).toUInt32).toInt32) &&& (3 : Int32))), (kI ((((p1.toUInt32 >>> ((4 : Int32) &&& 31).toUInt32).toInt32) &&& (15 : Int32)) % ((p1 &&& (15 : Int32)) + (1 : Int32)))), (kI ((((p1.toUInt32 >>> ((8 : Int32) &&& 31).toUInt32).toInt32) &&& (15 : Int32)) % ((p1 &&& (15 : Int32)) + (1 : Int32)))), (kI ((((p1.toUInt32 >>> ((12 : Int32) &&& 31).toUInt32).toInt32) &&& (15 : Int32)) % ((p1 &&& (15 : Int32)) + (1 : Int32)))), (kJ (p2.toInt64)), kD, (kJ (p3.toInt64)), kD, (kJ (p4.toInt64)), kD, kU, kU, kU, kU, kU, kU, kU, kU] [])) t → Steps p.tables e below (s₁.setTop (entryFrame m #[(.int p1), (.int p2), (.int p3), (.int p4)] maxLocals)) t := fun t k => pre0 t (by
    show Steps _ _ _ (s₁.setTop (mkF m 0 #[(kI p1), (kI p2), (kI p3), (kI p4), kU, kU, kU, kU, kU, kU, kU, kU, kU, kU, kU, kU, kU, kU, kU, kU, kU, kU, kU] [])) _
    refine XS.iloadN X0.here hx rfl (hb hby at_0) rfl ?_
    refine XS.bipush X0.here hx rfl (hb hby at_1) ?_
    show Steps _ _ _ (s₁.setTop (mkF m 3 #[(kI p1), (kI p2), (kI p3), (kI p4), kU, kU, kU, kU, kU, kU, kU, kU, kU, kU, kU, kU, kU, kU, kU, kU, kU, kU, kU] [(.int (15 : Int32)), (.int p1)])) _
    refine XS.iand X0.here hx rfl (hb hby at_3) rfl ?_
    refine XS.istore X0.here hx rfl (hb hby at_4) rfl (l' := #[(kI p1), (kI p2), (kI p3), (kI p4), (kI (p1 &&& (15 : Int32))), kU, kU, kU, kU, kU, kU, kU, kU, kU, kU, kU, kU, kU, kU, kU, kU, kU, kU]) rfl ?_
    refine XS.iloadN X0.here hx rfl (hb hby at_6) rfl ?_
    show Steps _ _ _ (s₁.setTop (mkF m 7 #[(kI p1), (kI p2), (kI p3), (kI p4), (kI (p1 &&& (15 : Int32))), kU, kU, kU, kU, kU, kU, kU, kU, kU, kU, kU, kU, kU, kU, kU, kU, kU, kU] [(.int p1)])) _
    refine XS.bipush X0.here hx rfl (hb hby at_7) ?_
    refine XS.iushr X0.here hx rfl (hb hby at_9) rfl ?_
    refine XS.iconst X0.here hx rfl (hb hby at_10) ?_
    show Steps _ _ _ (s₁.setTop (mkF m 11 #[(kI p1), (kI p2), (kI p3), (kI p4), (kI (p1 &&& (15 : Int32))), kU, kU, kU, kU, kU, kU, kU, kU, kU, kU, kU, kU, kU, kU, kU, kU, kU, kU] [(.int (3 : Int32)), (.int ((p1.toUInt32 >>> ((16 : Int32) &&& 31).toUInt32).toInt32))])) _
    refine XS.iand X0.here hx rfl (hb hby at_11) rfl ?_
    refine XS.istore X0.here hx rfl (hb hby at_12) rfl (l' := #[(kI p1), (kI p2), (kI p3), (kI p4), (kI (p1 &&& (15 : Int32))), (kI (((p1.toUInt32 >>> ((16 : Int32) &&& 31).toUInt32).toInt32) &&& (3 : Int32))), kU, kU, kU, kU, kU, kU, kU, kU, kU, kU, kU, kU, kU, kU, kU, kU, kU]) rfl ?_
    refine XS.iloadN X0.here hx rfl (hb hby at_14) rfl ?_
    show Steps _ _ _ (s₁.setTop (mkF m 15 #[(kI p1), (kI p2), (kI p3), (kI p4), (kI (p1 &&& (15 : Int32))), (kI (((p1.toUInt32 >>> ((16 : Int32) &&& 31).toUInt32).toInt32) &&& (3 : Int32))), kU, kU, kU, kU, kU, kU, kU, kU, kU, kU, kU, kU, kU, kU, kU, kU, kU] [(.int p1)])) _
    refine XS.iconst X0.here hx rfl (hb hby at_15) ?_
    refine XS.iushr X0.here hx rfl (hb hby at_16) rfl ?_
    refine XS.bipush X0.here hx rfl (hb hby at_17) ?_
    show Steps _ _ _ (s₁.setTop (mkF m 19 #[(kI p1), (kI p2), (kI p3), (kI p4), (kI (p1 &&& (15 : Int32))), (kI (((p1.toUInt32 >>> ((16 : Int32) &&& 31).toUInt32).toInt32) &&& (3 : Int32))), kU, kU, kU, kU, kU, kU, kU, kU, kU, kU, kU, kU, kU, kU, kU, kU, kU] [(.int (15 : Int32)), (.int ((p1.toUInt32 >>> ((4 : Int32) &&& 31).toUInt32).toInt32))])) _
    refine XS.iand X0.here hx rfl (hb hby at_19) rfl ?_
    refine XS.iload X0.here hx rfl (hb hby at_20) rfl ?_
    refine XS.iconst X0.here hx rfl (hb hby at_22) ?_
    show Steps _ _ _ (s₁.setTop (mkF m 23 #[(kI p1), (kI p2), (kI p3), (kI p4), (kI (p1 &&& (15 : Int32))), (kI (((p1.toUInt32 >>> ((16 : Int32) &&& 31).toUInt32).toInt32) &&& (3 : Int32))), kU, kU, kU, kU, kU, kU, kU, kU, kU, kU, kU, kU, kU, kU, kU, kU, kU] [(.int (1 : Int32)), (.int (p1 &&& (15 : Int32))), (.int (((p1.toUInt32 >>> ((4 : Int32) &&& 31).toUInt32).toInt32) &&& (15 : Int32)))])) _
    refine XS.iadd X0.here hx rfl (hb hby at_23) rfl ?_
    show Steps _ _ _ (s₁.setTop (mkF m 24 #[(kI p1), (kI p2), (kI p3), (kI p4), (kI (p1 &&& (15 : Int32))), (kI (((p1.toUInt32 >>> ((16 : Int32) &&& 31).toUInt32).toInt32) &&& (3 : Int32))), kU, kU, kU, kU, kU, kU, kU, kU, kU, kU, kU, kU, kU, kU, kU, kU, kU] [(.int ((p1 &&& (15 : Int32)) + (1 : Int32))), (.int (((p1.toUInt32 >>> ((4 : Int32) &&& 31).toUInt32).toInt32) &&& (15 : Int32)))])) _
    refine iremM X0 hx rfl (hb hby at_24) rfl (own_spnz p1) ?_
    refine XS.istore X0.here hx rfl (hb hby at_25) rfl (l' := #[(kI p1), (kI p2), (kI p3), (kI p4), (kI (p1 &&& (15 : Int32))), (kI (((p1.toUInt32 >>> ((16 : Int32) &&& 31).toUInt32).toInt32) &&& (3 : Int32))), (kI ((((p1.toUInt32 >>> ((4 : Int32) &&& 31).toUInt32).toInt32) &&& (15 : Int32)) % ((p1 &&& (15 : Int32)) + (1 : Int32)))), kU, kU, kU, kU, kU, kU, kU, kU, kU, kU, kU, kU, kU, kU, kU, kU]) rfl ?_
    show Steps _ _ _ (s₁.setTop (mkF m 27 #[(kI p1), (kI p2), (kI p3), (kI p4), (kI (p1 &&& (15 : Int32))), (kI (((p1.toUInt32 >>> ((16 : Int32) &&& 31).toUInt32).toInt32) &&& (3 : Int32))), (kI ((((p1.toUInt32 >>> ((4 : Int32) &&& 31).toUInt32).toInt32) &&& (15 : Int32)) % ((p1 &&& (15 : Int32)) + (1 : Int32)))), kU, kU, kU, kU, kU, kU, kU, kU, kU, kU, kU, kU, kU, kU, kU, kU] [])) _
    refine XS.iloadN X0.here hx rfl (hb hby at_27) rfl ?_
    refine XS.bipush X0.here hx rfl (hb hby at_28) ?_
    refine XS.iushr X0.here hx rfl (hb hby at_30) rfl ?_
    show Steps _ _ _ (s₁.setTop (mkF m 31 #[(kI p1), (kI p2), (kI p3), (kI p4), (kI (p1 &&& (15 : Int32))), (kI (((p1.toUInt32 >>> ((16 : Int32) &&& 31).toUInt32).toInt32) &&& (3 : Int32))), (kI ((((p1.toUInt32 >>> ((4 : Int32) &&& 31).toUInt32).toInt32) &&& (15 : Int32)) % ((p1 &&& (15 : Int32)) + (1 : Int32)))), kU, kU, kU, kU, kU, kU, kU, kU, kU, kU, kU, kU, kU, kU, kU, kU] [(.int ((p1.toUInt32 >>> ((8 : Int32) &&& 31).toUInt32).toInt32))])) _
    refine XS.bipush X0.here hx rfl (hb hby at_31) ?_
    refine XS.iand X0.here hx rfl (hb hby at_33) rfl ?_
    refine XS.iload X0.here hx rfl (hb hby at_34) rfl ?_
    show Steps _ _ _ (s₁.setTop (mkF m 36 #[(kI p1), (kI p2), (kI p3), (kI p4), (kI (p1 &&& (15 : Int32))), (kI (((p1.toUInt32 >>> ((16 : Int32) &&& 31).toUInt32).toInt32) &&& (3 : Int32))), (kI ((((p1.toUInt32 >>> ((4 : Int32) &&& 31).toUInt32).toInt32) &&& (15 : Int32)) % ((p1 &&& (15 : Int32)) + (1 : Int32)))), kU, kU, kU, kU, kU, kU, kU, kU, kU, kU, kU, kU, kU, kU, kU, kU] [(.int (p1 &&& (15 : Int32))), (.int (((p1.toUInt32 >>> ((8 : Int32) &&& 31).toUInt32).toInt32) &&& (15 : Int32)))])) _
    refine XS.iconst X0.here hx rfl (hb hby at_36) ?_
    refine XS.iadd X0.here hx rfl (hb hby at_37) rfl ?_
    show Steps _ _ _ (s₁.setTop (mkF m 38 #[(kI p1), (kI p2), (kI p3), (kI p4), (kI (p1 &&& (15 : Int32))), (kI (((p1.toUInt32 >>> ((16 : Int32) &&& 31).toUInt32).toInt32) &&& (3 : Int32))), (kI ((((p1.toUInt32 >>> ((4 : Int32) &&& 31).toUInt32).toInt32) &&& (15 : Int32)) % ((p1 &&& (15 : Int32)) + (1 : Int32)))), kU, kU, kU, kU, kU, kU, kU, kU, kU, kU, kU, kU, kU, kU, kU, kU] [(.int ((p1 &&& (15 : Int32)) + (1 : Int32))), (.int (((p1.toUInt32 >>> ((8 : Int32) &&& 31).toUInt32).toInt32) &&& (15 : Int32)))])) _
    refine iremM X0 hx rfl (hb hby at_38) rfl (own_spnz p1) ?_
    show Steps _ _ _ (s₁.setTop (mkF m 39 #[(kI p1), (kI p2), (kI p3), (kI p4), (kI (p1 &&& (15 : Int32))), (kI (((p1.toUInt32 >>> ((16 : Int32) &&& 31).toUInt32).toInt32) &&& (3 : Int32))), (kI ((((p1.toUInt32 >>> ((4 : Int32) &&& 31).toUInt32).toInt32) &&& (15 : Int32)) % ((p1 &&& (15 : Int32)) + (1 : Int32)))), kU, kU, kU, kU, kU, kU, kU, kU, kU, kU, kU, kU, kU, kU, kU, kU] [(.int ((((p1.toUInt32 >>> ((8 : Int32) &&& 31).toUInt32).toInt32) &&& (15 : Int32)) % ((p1 &&& (15 : Int32)) + (1 : Int32))))])) _
    refine XS.istore X0.here hx rfl (hb hby at_39) rfl (l' := #[(kI p1), (kI p2), (kI p3), (kI p4), (kI (p1 &&& (15 : Int32))), (kI (((p1.toUInt32 >>> ((16 : Int32) &&& 31).toUInt32).toInt32) &&& (3 : Int32))), (kI ((((p1.toUInt32 >>> ((4 : Int32) &&& 31).toUInt32).toInt32) &&& (15 : Int32)) % ((p1 &&& (15 : Int32)) + (1 : Int32)))), (kI ((((p1.toUInt32 >>> ((8 : Int32) &&& 31).toUInt32).toInt32) &&& (15 : Int32)) % ((p1 &&& (15 : Int32)) + (1 : Int32)))), kU, kU, kU, kU, kU, kU, kU, kU, kU, kU, kU, kU, kU, kU, kU]) rfl ?_
    refine XS.iloadN X0.here hx rfl (hb hby at_41) rfl ?_
    refine XS.bipush X0.here hx rfl (hb hby at_42) ?_
    show Steps _ _ _ (s₁.setTop (mkF m 44 #[(kI p1), (kI p2), (kI p3), (kI p4), (kI (p1 &&& (15 : Int32))), (kI (((p1.toUInt32 >>> ((16 : Int32) &&& 31).toUInt32).toInt32) &&& (3 : Int32))), (kI ((((p1.toUInt32 >>> ((4 : Int32) &&& 31).toUInt32).toInt32) &&& (15 : Int32)) % ((p1 &&& (15 : Int32)) + (1 : Int32)))), (kI ((((p1.toUInt32 >>> ((8 : Int32) &&& 31).toUInt32).toInt32) &&& (15 : Int32)) % ((p1 &&& (15 : Int32)) + (1 : Int32)))), kU, kU, kU, kU, kU, kU, kU, kU, kU, kU, kU, kU, kU, kU, kU] [(.int (12 : Int32)), (.int p1)])) _
    refine XS.iushr X0.here hx rfl (hb hby at_44) rfl ?_
    refine XS.bipush X0.here hx rfl (hb hby at_45) ?_
    refine XS.iand X0.here hx rfl (hb hby at_47) rfl ?_
    show Steps _ _ _ (s₁.setTop (mkF m 48 #[(kI p1), (kI p2), (kI p3), (kI p4), (kI (p1 &&& (15 : Int32))), (kI (((p1.toUInt32 >>> ((16 : Int32) &&& 31).toUInt32).toInt32) &&& (3 : Int32))), (kI ((((p1.toUInt32 >>> ((4 : Int32) &&& 31).toUInt32).toInt32) &&& (15 : Int32)) % ((p1 &&& (15 : Int32)) + (1 : Int32)))), (kI ((((p1.toUInt32 >>> ((8 : Int32) &&& 31).toUInt32).toInt32) &&& (15 : Int32)) % ((p1 &&& (15 : Int32)) + (1 : Int32)))), kU, kU, kU, kU, kU, kU, kU, kU, kU, kU, kU, kU, kU, kU, kU] [(.int (((p1.toUInt32 >>> ((12 : Int32) &&& 31).toUInt32).toInt32) &&& (15 : Int32)))])) _
    refine XS.iload X0.here hx rfl (hb hby at_48) rfl ?_
    refine XS.iconst X0.here hx rfl (hb hby at_50) ?_
    refine XS.iadd X0.here hx rfl (hb hby at_51) rfl ?_
    show Steps _ _ _ (s₁.setTop (mkF m 52 #[(kI p1), (kI p2), (kI p3), (kI p4), (kI (p1 &&& (15 : Int32))), (kI (((p1.toUInt32 >>> ((16 : Int32) &&& 31).toUInt32).toInt32) &&& (3 : Int32))), (kI ((((p1.toUInt32 >>> ((4 : Int32) &&& 31).toUInt32).toInt32) &&& (15 : Int32)) % ((p1 &&& (15 : Int32)) + (1 : Int32)))), (kI ((((p1.toUInt32 >>> ((8 : Int32) &&& 31).toUInt32).toInt32) &&& (15 : Int32)) % ((p1 &&& (15 : Int32)) + (1 : Int32)))), kU, kU, kU, kU, kU, kU, kU, kU, kU, kU, kU, kU, kU, kU, kU] [(.int ((p1 &&& (15 : Int32)) + (1 : Int32))), (.int (((p1.toUInt32 >>> ((12 : Int32) &&& 31).toUInt32).toInt32) &&& (15 : Int32)))])) _
    refine iremM X0 hx rfl (hb hby at_52) rfl (own_spnz p1) ?_
    refine XS.istore X0.here hx rfl (hb hby at_53) rfl (l' := #[(kI p1), (kI p2), (kI p3), (kI p4), (kI (p1 &&& (15 : Int32))), (kI (((p1.toUInt32 >>> ((16 : Int32) &&& 31).toUInt32).toInt32) &&& (3 : Int32))), (kI ((((p1.toUInt32 >>> ((4 : Int32) &&& 31).toUInt32).toInt32) &&& (15 : Int32)) % ((p1 &&& (15 : Int32)) + (1 : Int32)))), (kI ((((p1.toUInt32 >>> ((8 : Int32) &&& 31).toUInt32).toInt32) &&& (15 : Int32)) % ((p1 &&& (15 : Int32)) + (1 : Int32)))), (kI ((((p1.toUInt32 >>> ((12 : Int32) &&& 31).toUInt32).toInt32) &&& (15 : Int32)) % ((p1 &&& (15 : Int32)) + (1 : Int32)))), kU, kU, kU, kU, kU, kU, kU, kU, kU, kU, kU, kU, kU, kU]) rfl ?_
    refine XS.iloadN X0.here hx rfl (hb hby at_55) rfl ?_
    show Steps _ _ _ (s₁.setTop (mkF m 56 #[(kI p1), (kI p2), (kI p3), (kI p4), (kI (p1 &&& (15 : Int32))), (kI (((p1.toUInt32 >>> ((16 : Int32) &&& 31).toUInt32).toInt32) &&& (3 : Int32))), (kI ((((p1.toUInt32 >>> ((4 : Int32) &&& 31).toUInt32).toInt32) &&& (15 : Int32)) % ((p1 &&& (15 : Int32)) + (1 : Int32)))), (kI ((((p1.toUInt32 >>> ((8 : Int32) &&& 31).toUInt32).toInt32) &&& (15 : Int32)) % ((p1 &&& (15 : Int32)) + (1 : Int32)))), (kI ((((p1.toUInt32 >>> ((12 : Int32) &&& 31).toUInt32).toInt32) &&& (15 : Int32)) % ((p1 &&& (15 : Int32)) + (1 : Int32)))), kU, kU, kU, kU, kU, kU, kU, kU, kU, kU, kU, kU, kU, kU] [(.int p2)])) _
    refine XS.i2l X0.here hx rfl (hb hby at_56) rfl ?_
    refine XS.lstore X0.here hx rfl (hb hby at_57) rfl (l' := #[(kI p1), (kI p2), (kI p3), (kI p4), (kI (p1 &&& (15 : Int32))), (kI (((p1.toUInt32 >>> ((16 : Int32) &&& 31).toUInt32).toInt32) &&& (3 : Int32))), (kI ((((p1.toUInt32 >>> ((4 : Int32) &&& 31).toUInt32).toInt32) &&& (15 : Int32)) % ((p1 &&& (15 : Int32)) + (1 : Int32)))), (kI ((((p1.toUInt32 >>> ((8 : Int32) &&& 31).toUInt32).toInt32) &&& (15 : Int32)) % ((p1 &&& (15 : Int32)) + (1 : Int32)))), (kI ((((p1.toUInt32 >>> ((12 : Int32) &&& 31).toUInt32).toInt32) &&& (15 : Int32)) % ((p1 &&& (15 : Int32)) + (1 : Int32)))), (kJ (p2.toInt64)), kD, kU, kU, kU, kU, kU, kU, kU, kU, kU, kU, kU, kU]) rfl ?_
    refine XS.iloadN X0.here hx rfl (hb hby at_59) rfl ?_
    show Steps _ _ _ (s₁.setTop (mkF m 60 #[(kI p1), (kI p2), (kI p3), (kI p4), (kI (p1 &&& (15 : Int32))), (kI (((p1.toUInt32 >>> ((16 : Int32) &&& 31).toUInt32).toInt32) &&& (3 : Int32))), (kI ((((p1.toUInt32 >>> ((4 : Int32) &&& 31).toUInt32).toInt32) &&& (15 : Int32)) % ((p1 &&& (15 : Int32)) + (1 : Int32)))), (kI ((((p1.toUInt32 >>> ((8 : Int32) &&& 31).toUInt32).toInt32) &&& (15 : Int32)) % ((p1 &&& (15 : Int32)) + (1 : Int32)))), (kI ((((p1.toUInt32 >>> ((12 : Int32) &&& 31).toUInt32).toInt32) &&& (15 : Int32)) % ((p1 &&& (15 : Int32)) + (1 : Int32)))), (kJ (p2.toInt64)), kD, kU, kU, kU, kU, kU, kU, kU, kU, kU, kU, kU, kU] [(.int p3)])) _
    refine XS.i2l X0.here hx rfl (hb hby at_60) rfl ?_
    refine XS.lstore X0.here hx rfl (hb hby at_61) rfl (l' := #[(kI p1), (kI p2), (kI p3), (kI p4), (kI (p1 &&& (15 : Int32))), (kI (((p1.toUInt32 >>> ((16 : Int32) &&& 31).toUInt32).toInt32) &&& (3 : Int32))), (kI ((((p1.toUInt32 >>> ((4 : Int32) &&& 31).toUInt32).toInt32) &&& (15 : Int32)) % ((p1 &&& (15 : Int32)) + (1 : Int32)))), (kI ((((p1.toUInt32 >>> ((8 : Int32) &&& 31).toUInt32).toInt32) &&& (15 : Int32)) % ((p1 &&& (15 : Int32)) + (1 : Int32)))), (kI ((((p1.toUInt32 >>> ((12 : Int32) &&& 31).toUInt32).toInt32) &&& (15 : Int32)) % ((p1 &&& (15 : Int32)) + (1 : Int32)))), (kJ (p2.toInt64)), kD, (kJ (p3.toInt64)), kD, kU, kU, kU, kU, kU, kU, kU, kU, kU, kU]) rfl ?_
    refine XS.iloadN X0.here hx rfl (hb hby at_63) rfl ?_
    show Steps _ _ _ (s₁.setTop (mkF m 64 #[(kI p1), (kI p2), (kI p3), (kI p4), (kI (p1 &&& (15 : Int32))), (kI (((p1.toUInt32 >>> ((16 : Int32) &&& 31).toUInt32).toInt32) &&& (3 : Int32))), (kI ((((p1.toUInt32 >>> ((4 : Int32) &&& 31).toUInt32).toInt32) &&& (15 : Int32)) % ((p1 &&& (15 : Int32)) + (1 : Int32)))), (kI ((((p1.toUInt32 >>> ((8 : Int32) &&& 31).toUInt32).toInt32) &&& (15 : Int32)) % ((p1 &&& (15 : Int32)) + (1 : Int32)))), (kI ((((p1.toUInt32 >>> ((12 : Int32) &&& 31).toUInt32).toInt32) &&& (15 : Int32)) % ((p1 &&& (15 : Int32)) + (1 : Int32)))), (kJ (p2.toInt64)), kD, (kJ (p3.toInt64)), kD, kU, kU, kU, kU, kU, kU, kU, kU, kU, kU] [(.int p4)])) _
    refine XS.i2l X0.here hx rfl (hb hby at_64) rfl ?_
    refine XS.lstore X0.here hx rfl (hb hby at_65) rfl (l' := #[(kI p1), (kI p2), (kI p3), (kI p4), (kI (p1 &&& (15 : Int32))), (kI (((p1.toUInt32 >>> ((16 : Int32) &&& 31).toUInt32).toInt32) &&& (3 : Int32))), (kI ((((p1.toUInt32 >>> ((4 : Int32) &&& 31).toUInt32).toInt32) &&& (15 : Int32)) % ((p1 &&& (15 : Int32)) + (1 : Int32)))), (kI ((((p1.toUInt32 >>> ((8 : Int32) &&& 31).toUInt32).toInt32) &&& (15 : Int32)) % ((p1 &&& (15 : Int32)) + (1 : Int32)))), (kI ((((p1.toUInt32 >>> ((12 : Int32) &&& 31).toUInt32).toInt32) &&& (15 : Int32)) % ((p1 &&& (15 : Int32)) + (1 : Int32)))), (kJ (p2.toInt64)), kD, (kJ (p3.toInt64)), kD, (kJ (p4.toInt64)), kD, kU, kU, kU, kU, kU, kU, kU, kU]) rfl ?_
    exact k)
  obtain ⟨ucap, hucap⟩ : ∃ x : Int32, x = (p1 &&& (15 : Int32)) := ⟨_, rfl⟩
  obtain ⟨un0, hun0⟩ : ∃ x : Int32, x = (((p1.toUInt32 >>> ((16 : Int32) &&& 31).toUInt32).toInt32) &&& (3 : Int32)) := ⟨_, rfl⟩
  obtain ⟨us0, hus0⟩ : ∃ x : Int32, x = ((((p1.toUInt32 >>> ((4 : Int32) &&& 31).toUInt32).toInt32) &&& (15 : Int32)) % ((p1 &&& (15 : Int32)) + (1 : Int32))) := ⟨_, rfl⟩
  obtain ⟨us1, hus1⟩ : ∃ x : Int32, x = ((((p1.toUInt32 >>> ((8 : Int32) &&& 31).toUInt32).toInt32) &&& (15 : Int32)) % ((p1 &&& (15 : Int32)) + (1 : Int32))) := ⟨_, rfl⟩
  obtain ⟨us2, hus2⟩ : ∃ x : Int32, x = ((((p1.toUInt32 >>> ((12 : Int32) &&& 31).toUInt32).toInt32) &&& (15 : Int32)) % ((p1 &&& (15 : Int32)) + (1 : Int32))) := ⟨_, rfl⟩
  have hcapL : own_cap ucap := by rw [hucap]; exact own_capL p1
  have hsL0 : own_rg us0 ucap := by rw [hus0, hucap]; exact own_rgL p1 _
  have hsL1 : own_rg us1 ucap := by rw [hus1, hucap]; exact own_rgL p1 _
  have hsL2 : own_rg us2 ucap := by rw [hus2, hucap]; exact own_rgL p1 _
  have hn4 : un0 = 0 ∨ un0 = 1 ∨ un0 = 2 ∨ un0 = 3 := by rw [hun0]; exact own_and3 _
  have preG : ∀ t, Steps p.tables e below (s₁.setTop (mkF m 67 (Lq0 p1 p2 p3 p4 ucap us0 us1 us2 (kI un0) kU kU kU kU kU kU kU) [])) t → Steps p.tables e below (s₁.setTop (entryFrame m #[(.int p1), (.int p2), (.int p3), (.int p4)] maxLocals)) t := by rw [hucap, hun0, hus0, hus1, hus2]; exact pre1
  refine own_jn (α := State × (List Loc) × Heap × Int32 × Addr × Addr × Addr × Int32 × Int32 × Int32 × Slot) (fun a => match a with | (T2, locs2, h2, un, ua, uw, ur, uk, uM, up, ui) => ¬ ucap < f2 uM us0 us1 us2 ∧ f4 uM (p2.toInt64) (p3.toInt64) (p4.toInt64) = own_mx un ucap us0 us1 us2 (p2.toInt64) (p3.toInt64) (p4.toInt64) ∧ own_sl ui ∧ Stand p l e room_1 s m #[(.int p1), (.int p2), (.int p3), (.int p4)] below meth c T2 locs2 32 256 ∧ T2.heap = h2 ∧ Fr n0 locs2 ∧ Keep h0 h2 [] ∧ (∀ t, Steps p.tables e below (T2.setTop (mkF m 339 (Lq0 p1 p2 p3 p4 ucap us0 us1 us2 (kI un) (kR ua) (kR uw) (kR ur) (kI uk) (kI uM) (kI up) ui) [])) t → Steps p.tables e below (s₁.setTop (entryFrame m #[(.int p1), (.int p2), (.int p3), (.int p4)] maxLocals)) t)) ?_ ?_
  · rintro ⟨T2, locs2, h2, un, ua, uw, ur, uk, uM, up, ui⟩ ⟨hsz, hwt, hsl_ui, X2, e2, N2, Kl2, pre2⟩
    obtain ⟨_, _, ⟨T3, L3, k3, n3⟩, -, X3, ⟨Lc3, hQ3, l3, y3, z3⟩, st3⟩ := Jvm.LawKit.callS X2 hx (y := (⟨"com/example/hindsight/hindsight/solvers/KnapsackHeaviestPinLaw", "size", "(IIII)I"⟩ : MethodName)) hown (mvT hZ (hw _ (List.mem_of_getElem? (i := 9) rfl))) (mvT hZ (hw _ (List.mem_of_getElem? (i := 10) rfl))) (mvT hZ (hw _ (List.mem_of_getElem? (i := 11) rfl))) (mvT hZ (hw _ (List.mem_of_getElem? (i := 12) rfl))) (by decide) (backOf (W := 0) (rm2 l Z a0 hw [] uM us0 us1 us2 h2 n0 (Nat.le_trans Z0 Kl2.1)) hZ (hw _ (List.mem_of_getElem? (i := 12) rfl)) (hw _ (List.mem_of_getElem? (i := 11) rfl)) (by decide) (by decide)) (g := (mkF m 347 (Lq0 p1 p2 p3 p4 ucap us0 us1 us2 (kI un) (kR ua) (kR uw) (kR ur) (kI uk) (kI uM) (kI up) ui) [(.int us2), (.int us1), (.int us0), (.int uM)])) rfl (by rw [hml]; rfl) (argsL := [(.int uM), (.int us0), (.int us1), (.int us2)]) (rest := []) (lenOf pd_0 rfl) rfl (by show 2 * 0 + _ ≤ _; exact Nat.le_of_eq rfl) (hb hby at_347) (fun _ _ => ⟨rfl, e2, (by decide : 32 + 0 ≤ _), (by decide : 256 + 0 ≤ _)⟩)
    dsimp only [Pt.U, Pt.locs, Pt.cells, Pt.slots] at X3 l3 y3 z3 st3 hQ3
    first | rw [l3, y3, z3] at X3 | subst l3 y3 z3
    obtain ⟨rfl, N3q, e3⟩ := hQ3
    have N3 := Fr.app N2 N3q
    have hc4 : ¬ (ucap < (f2 uM us0 us1 us2)) := by exact hsz
    obtain ⟨_, _, ⟨T5, L5, k5, n5⟩, -, X5, ⟨Lc5, hQ5, l5, y5, z5⟩, st5⟩ := Jvm.LawKit.callS X3 hx (y := (⟨"com/example/hindsight/hindsight/solvers/KnapsackHeaviestPinLaw", "value", "(IIIIIIJJJ)J"⟩ : MethodName)) hown (mvT hZ (hw _ (List.mem_of_getElem? (i := 13) rfl))) (mvT hZ (hw _ (List.mem_of_getElem? (i := 14) rfl))) (mvT hZ (hw _ (List.mem_of_getElem? (i := 11) rfl))) (mvT hZ (hw _ (List.mem_of_getElem? (i := 15) rfl))) (by decide) (backOf (W := 2) (rm3 l Z a0 hw [] (0 : Int32) un ucap us0 us1 us2 (p2.toInt64) (p3.toInt64) (p4.toInt64) h2 n0 (Nat.le_trans Z0 Kl2.1)) hZ (hw _ (List.mem_of_getElem? (i := 15) rfl)) (hw _ (List.mem_of_getElem? (i := 11) rfl)) (by decide) (by decide)) (g := (mkF m 379 #[(kI p1), (kI p2), (kI p3), (kI p4), (kI ucap), (kI un), (kI us0), (kI us1), (kI us2), (kJ (p2.toInt64)), kD, (kJ (p3.toInt64)), kD, (kJ (p4.toInt64)), kD, (kR ua), (kR uw), (kR ur), (kI uk), (kI uM), (kI up), (kJ 0), kD] [(.long (p4.toInt64)), (.long (p3.toInt64)), (.long (p2.toInt64)), (.int us2), (.int us1), (.int us0), (.int ucap), (.int un), (.int (0 : Int32)), (.long (0 : Int64))])) rfl (by rw [hml]; rfl) (argsL := [(.int (0 : Int32)), (.int un), (.int ucap), (.int us0), (.int us1), (.int us2), (.long (p2.toInt64)), (.long (p3.toInt64)), (.long (p4.toInt64))]) (rest := [(.long (0 : Int64))]) (lenOf pd_2 rfl) rfl (by show 2 * 0 + _ ≤ _; exact Nat.le_of_eq rfl) (hb hby at_379) (fun _ _ => ⟨rfl, e3, (by decide : 32 + 0 ≤ _), (by decide : 256 + 0 ≤ _)⟩)
    dsimp only [Pt.U, Pt.locs, Pt.cells, Pt.slots] at X5 l5 y5 z5 st5 hQ5
    first | rw [l5, y5, z5] at X5 | subst l5 y5 z5
    obtain ⟨rfl, N5q, e5⟩ := hQ5
    have N5 := Fr.app N3 N5q
    obtain ⟨_, _, ⟨T6, L6, k6, n6⟩, -, X6, ⟨Lc6, hQ6, l6, y6, z6⟩, st6⟩ := Jvm.LawKit.callS X5 hx (y := (⟨"java/lang/Math", "max", "(JJ)J"⟩ : MethodName)) hown (mvT hZ (hw _ (List.mem_of_getElem? (i := 19) rfl))) (mvT hZ (hw _ (List.mem_of_getElem? (i := 20) rfl))) (mvT hZ (hw _ (List.mem_of_getElem? (i := 21) rfl))) (mvT hZ (hw _ (List.mem_of_getElem? (i := 22) rfl))) (by decide) (backOf (W := 0) (rm5 l Z a0 hw [] (0 : Int64) (f3 (0 : Int32) un ucap us0 us1 us2 (p2.toInt64) (p3.toInt64) (p4.toInt64)) h2 n0 (Nat.le_trans Z0 Kl2.1)) hZ (hw _ (List.mem_of_getElem? (i := 22) rfl)) (hw _ (List.mem_of_getElem? (i := 21) rfl)) (by decide) (by decide)) (g := (mkF m 382 #[(kI p1), (kI p2), (kI p3), (kI p4), (kI ucap), (kI un), (kI us0), (kI us1), (kI us2), (kJ (p2.toInt64)), kD, (kJ (p3.toInt64)), kD, (kJ (p4.toInt64)), kD, (kR ua), (kR uw), (kR ur), (kI uk), (kI uM), (kI up), (kJ 0), kD] [(.long (f3 (0 : Int32) un ucap us0 us1 us2 (p2.toInt64) (p3.toInt64) (p4.toInt64))), (.long (0 : Int64))])) rfl (by rw [hml]; rfl) (argsL := [(.long (0 : Int64)), (.long (f3 (0 : Int32) un ucap us0 us1 us2 (p2.toInt64) (p3.toInt64) (p4.toInt64)))]) (rest := []) (lenOf pd_3 rfl) rfl (by show 2 * 0 + _ ≤ _; exact Nat.le_of_eq rfl) (hb hby at_382) (fun _ _ => ⟨rfl, e5, (by decide : 32 + 0 ≤ _), (by decide : 256 + 0 ≤ _)⟩)
    dsimp only [Pt.U, Pt.locs, Pt.cells, Pt.slots] at X6 l6 y6 z6 st6 hQ6
    first | rw [l6, y6, z6] at X6 | subst l6 y6 z6
    obtain ⟨rfl, N6q, e6⟩ := hQ6
    have N6 := Fr.app N5 N6q
    obtain ⟨_, _, ⟨T7, L7, k7, n7⟩, -, X7, ⟨Lc7, hQ7, l7, y7, z7⟩, st7⟩ := Jvm.LawKit.callS X6 hx (y := (⟨"com/example/hindsight/hindsight/solvers/KnapsackHeaviestPinLaw", "value", "(IIIIIIJJJ)J"⟩ : MethodName)) hown (mvT hZ (hw _ (List.mem_of_getElem? (i := 13) rfl))) (mvT hZ (hw _ (List.mem_of_getElem? (i := 14) rfl))) (mvT hZ (hw _ (List.mem_of_getElem? (i := 11) rfl))) (mvT hZ (hw _ (List.mem_of_getElem? (i := 15) rfl))) (by decide) (backOf (W := 2) (rm3 l Z a0 hw [] (1 : Int32) un ucap us0 us1 us2 (p2.toInt64) (p3.toInt64) (p4.toInt64) h2 n0 (Nat.le_trans Z0 Kl2.1)) hZ (hw _ (List.mem_of_getElem? (i := 15) rfl)) (hw _ (List.mem_of_getElem? (i := 11) rfl)) (by decide) (by decide)) (g := (mkF m 406 #[(kI p1), (kI p2), (kI p3), (kI p4), (kI ucap), (kI un), (kI us0), (kI us1), (kI us2), (kJ (p2.toInt64)), kD, (kJ (p3.toInt64)), kD, (kJ (p4.toInt64)), kD, (kR ua), (kR uw), (kR ur), (kI uk), (kI uM), (kI up), (kJ (f5 (0 : Int64) (f3 (0 : Int32) un ucap us0 us1 us2 (p2.toInt64) (p3.toInt64) (p4.toInt64)))), kD] [(.long (p4.toInt64)), (.long (p3.toInt64)), (.long (p2.toInt64)), (.int us2), (.int us1), (.int us0), (.int ucap), (.int un), (.int (1 : Int32)), (.long (f5 (0 : Int64) (f3 (0 : Int32) un ucap us0 us1 us2 (p2.toInt64) (p3.toInt64) (p4.toInt64))))])) rfl (by rw [hml]; rfl) (argsL := [(.int (1 : Int32)), (.int un), (.int ucap), (.int us0), (.int us1), (.int us2), (.long (p2.toInt64)), (.long (p3.toInt64)), (.long (p4.toInt64))]) (rest := [(.long (f5 (0 : Int64) (f3 (0 : Int32) un ucap us0 us1 us2 (p2.toInt64) (p3.toInt64) (p4.toInt64))))]) (lenOf pd_2 rfl) rfl (by show 2 * 0 + _ ≤ _; exact Nat.le_of_eq rfl) (hb hby at_406) (fun _ _ => ⟨rfl, e6, (by decide : 32 + 0 ≤ _), (by decide : 256 + 0 ≤ _)⟩)
    dsimp only [Pt.U, Pt.locs, Pt.cells, Pt.slots] at X7 l7 y7 z7 st7 hQ7
    first | rw [l7, y7, z7] at X7 | subst l7 y7 z7
    obtain ⟨rfl, N7q, e7⟩ := hQ7
    have N7 := Fr.app N6 N7q
    obtain ⟨_, _, ⟨T8, L8, k8, n8⟩, -, X8, ⟨Lc8, hQ8, l8, y8, z8⟩, st8⟩ := Jvm.LawKit.callS X7 hx (y := (⟨"java/lang/Math", "max", "(JJ)J"⟩ : MethodName)) hown (mvT hZ (hw _ (List.mem_of_getElem? (i := 19) rfl))) (mvT hZ (hw _ (List.mem_of_getElem? (i := 20) rfl))) (mvT hZ (hw _ (List.mem_of_getElem? (i := 21) rfl))) (mvT hZ (hw _ (List.mem_of_getElem? (i := 22) rfl))) (by decide) (backOf (W := 0) (rm5 l Z a0 hw [] (f5 (0 : Int64) (f3 (0 : Int32) un ucap us0 us1 us2 (p2.toInt64) (p3.toInt64) (p4.toInt64))) (f3 (1 : Int32) un ucap us0 us1 us2 (p2.toInt64) (p3.toInt64) (p4.toInt64)) h2 n0 (Nat.le_trans Z0 Kl2.1)) hZ (hw _ (List.mem_of_getElem? (i := 22) rfl)) (hw _ (List.mem_of_getElem? (i := 21) rfl)) (by decide) (by decide)) (g := (mkF m 409 #[(kI p1), (kI p2), (kI p3), (kI p4), (kI ucap), (kI un), (kI us0), (kI us1), (kI us2), (kJ (p2.toInt64)), kD, (kJ (p3.toInt64)), kD, (kJ (p4.toInt64)), kD, (kR ua), (kR uw), (kR ur), (kI uk), (kI uM), (kI up), (kJ (f5 (0 : Int64) (f3 (0 : Int32) un ucap us0 us1 us2 (p2.toInt64) (p3.toInt64) (p4.toInt64)))), kD] [(.long (f3 (1 : Int32) un ucap us0 us1 us2 (p2.toInt64) (p3.toInt64) (p4.toInt64))), (.long (f5 (0 : Int64) (f3 (0 : Int32) un ucap us0 us1 us2 (p2.toInt64) (p3.toInt64) (p4.toInt64))))])) rfl (by rw [hml]; rfl) (argsL := [(.long (f5 (0 : Int64) (f3 (0 : Int32) un ucap us0 us1 us2 (p2.toInt64) (p3.toInt64) (p4.toInt64)))), (.long (f3 (1 : Int32) un ucap us0 us1 us2 (p2.toInt64) (p3.toInt64) (p4.toInt64)))]) (rest := []) (lenOf pd_3 rfl) rfl (by show 2 * 0 + _ ≤ _; exact Nat.le_of_eq rfl) (hb hby at_409) (fun _ _ => ⟨rfl, e7, (by decide : 32 + 0 ≤ _), (by decide : 256 + 0 ≤ _)⟩)
    dsimp only [Pt.U, Pt.locs, Pt.cells, Pt.slots] at X8 l8 y8 z8 st8 hQ8
    first | rw [l8, y8, z8] at X8 | subst l8 y8 z8
    obtain ⟨rfl, N8q, e8⟩ := hQ8
    have N8 := Fr.app N7 N8q
    obtain ⟨_, _, ⟨T9, L9, k9, n9⟩, -, X9, ⟨Lc9, hQ9, l9, y9, z9⟩, st9⟩ := Jvm.LawKit.callS X8 hx (y := (⟨"com/example/hindsight/hindsight/solvers/KnapsackHeaviestPinLaw", "value", "(IIIIIIJJJ)J"⟩ : MethodName)) hown (mvT hZ (hw _ (List.mem_of_getElem? (i := 13) rfl))) (mvT hZ (hw _ (List.mem_of_getElem? (i := 14) rfl))) (mvT hZ (hw _ (List.mem_of_getElem? (i := 11) rfl))) (mvT hZ (hw _ (List.mem_of_getElem? (i := 15) rfl))) (by decide) (backOf (W := 2) (rm3 l Z a0 hw [] (2 : Int32) un ucap us0 us1 us2 (p2.toInt64) (p3.toInt64) (p4.toInt64) h2 n0 (Nat.le_trans Z0 Kl2.1)) hZ (hw _ (List.mem_of_getElem? (i := 15) rfl)) (hw _ (List.mem_of_getElem? (i := 11) rfl)) (by decide) (by decide)) (g := (mkF m 433 #[(kI p1), (kI p2), (kI p3), (kI p4), (kI ucap), (kI un), (kI us0), (kI us1), (kI us2), (kJ (p2.toInt64)), kD, (kJ (p3.toInt64)), kD, (kJ (p4.toInt64)), kD, (kR ua), (kR uw), (kR ur), (kI uk), (kI uM), (kI up), (kJ (f5 (f5 (0 : Int64) (f3 (0 : Int32) un ucap us0 us1 us2 (p2.toInt64) (p3.toInt64) (p4.toInt64))) (f3 (1 : Int32) un ucap us0 us1 us2 (p2.toInt64) (p3.toInt64) (p4.toInt64)))), kD] [(.long (p4.toInt64)), (.long (p3.toInt64)), (.long (p2.toInt64)), (.int us2), (.int us1), (.int us0), (.int ucap), (.int un), (.int (2 : Int32)), (.long (f5 (f5 (0 : Int64) (f3 (0 : Int32) un ucap us0 us1 us2 (p2.toInt64) (p3.toInt64) (p4.toInt64))) (f3 (1 : Int32) un ucap us0 us1 us2 (p2.toInt64) (p3.toInt64) (p4.toInt64))))])) rfl (by rw [hml]; rfl) (argsL := [(.int (2 : Int32)), (.int un), (.int ucap), (.int us0), (.int us1), (.int us2), (.long (p2.toInt64)), (.long (p3.toInt64)), (.long (p4.toInt64))]) (rest := [(.long (f5 (f5 (0 : Int64) (f3 (0 : Int32) un ucap us0 us1 us2 (p2.toInt64) (p3.toInt64) (p4.toInt64))) (f3 (1 : Int32) un ucap us0 us1 us2 (p2.toInt64) (p3.toInt64) (p4.toInt64))))]) (lenOf pd_2 rfl) rfl (by show 2 * 0 + _ ≤ _; exact Nat.le_of_eq rfl) (hb hby at_433) (fun _ _ => ⟨rfl, e8, (by decide : 32 + 0 ≤ _), (by decide : 256 + 0 ≤ _)⟩)
    dsimp only [Pt.U, Pt.locs, Pt.cells, Pt.slots] at X9 l9 y9 z9 st9 hQ9
    first | rw [l9, y9, z9] at X9 | subst l9 y9 z9
    obtain ⟨rfl, N9q, e9⟩ := hQ9
    have N9 := Fr.app N8 N9q
    obtain ⟨_, _, ⟨T10, L10, k10, n10⟩, -, X10, ⟨Lc10, hQ10, l10, y10, z10⟩, st10⟩ := Jvm.LawKit.callS X9 hx (y := (⟨"java/lang/Math", "max", "(JJ)J"⟩ : MethodName)) hown (mvT hZ (hw _ (List.mem_of_getElem? (i := 19) rfl))) (mvT hZ (hw _ (List.mem_of_getElem? (i := 20) rfl))) (mvT hZ (hw _ (List.mem_of_getElem? (i := 21) rfl))) (mvT hZ (hw _ (List.mem_of_getElem? (i := 22) rfl))) (by decide) (backOf (W := 0) (rm5 l Z a0 hw [] (f5 (f5 (0 : Int64) (f3 (0 : Int32) un ucap us0 us1 us2 (p2.toInt64) (p3.toInt64) (p4.toInt64))) (f3 (1 : Int32) un ucap us0 us1 us2 (p2.toInt64) (p3.toInt64) (p4.toInt64))) (f3 (2 : Int32) un ucap us0 us1 us2 (p2.toInt64) (p3.toInt64) (p4.toInt64)) h2 n0 (Nat.le_trans Z0 Kl2.1)) hZ (hw _ (List.mem_of_getElem? (i := 22) rfl)) (hw _ (List.mem_of_getElem? (i := 21) rfl)) (by decide) (by decide)) (g := (mkF m 436 #[(kI p1), (kI p2), (kI p3), (kI p4), (kI ucap), (kI un), (kI us0), (kI us1), (kI us2), (kJ (p2.toInt64)), kD, (kJ (p3.toInt64)), kD, (kJ (p4.toInt64)), kD, (kR ua), (kR uw), (kR ur), (kI uk), (kI uM), (kI up), (kJ (f5 (f5 (0 : Int64) (f3 (0 : Int32) un ucap us0 us1 us2 (p2.toInt64) (p3.toInt64) (p4.toInt64))) (f3 (1 : Int32) un ucap us0 us1 us2 (p2.toInt64) (p3.toInt64) (p4.toInt64)))), kD] [(.long (f3 (2 : Int32) un ucap us0 us1 us2 (p2.toInt64) (p3.toInt64) (p4.toInt64))), (.long (f5 (f5 (0 : Int64) (f3 (0 : Int32) un ucap us0 us1 us2 (p2.toInt64) (p3.toInt64) (p4.toInt64))) (f3 (1 : Int32) un ucap us0 us1 us2 (p2.toInt64) (p3.toInt64) (p4.toInt64))))])) rfl (by rw [hml]; rfl) (argsL := [(.long (f5 (f5 (0 : Int64) (f3 (0 : Int32) un ucap us0 us1 us2 (p2.toInt64) (p3.toInt64) (p4.toInt64))) (f3 (1 : Int32) un ucap us0 us1 us2 (p2.toInt64) (p3.toInt64) (p4.toInt64)))), (.long (f3 (2 : Int32) un ucap us0 us1 us2 (p2.toInt64) (p3.toInt64) (p4.toInt64)))]) (rest := []) (lenOf pd_3 rfl) rfl (by show 2 * 0 + _ ≤ _; exact Nat.le_of_eq rfl) (hb hby at_436) (fun _ _ => ⟨rfl, e9, (by decide : 32 + 0 ≤ _), (by decide : 256 + 0 ≤ _)⟩)
    dsimp only [Pt.U, Pt.locs, Pt.cells, Pt.slots] at X10 l10 y10 z10 st10 hQ10
    first | rw [l10, y10, z10] at X10 | subst l10 y10 z10
    obtain ⟨rfl, N10q, e10⟩ := hQ10
    have N10 := Fr.app N9 N10q
    obtain ⟨_, _, ⟨T11, L11, k11, n11⟩, -, X11, ⟨Lc11, hQ11, l11, y11, z11⟩, st11⟩ := Jvm.LawKit.callS X10 hx (y := (⟨"com/example/hindsight/hindsight/solvers/KnapsackHeaviestPinLaw", "value", "(IIIIIIJJJ)J"⟩ : MethodName)) hown (mvT hZ (hw _ (List.mem_of_getElem? (i := 13) rfl))) (mvT hZ (hw _ (List.mem_of_getElem? (i := 14) rfl))) (mvT hZ (hw _ (List.mem_of_getElem? (i := 11) rfl))) (mvT hZ (hw _ (List.mem_of_getElem? (i := 15) rfl))) (by decide) (backOf (W := 2) (rm3 l Z a0 hw [] (3 : Int32) un ucap us0 us1 us2 (p2.toInt64) (p3.toInt64) (p4.toInt64) h2 n0 (Nat.le_trans Z0 Kl2.1)) hZ (hw _ (List.mem_of_getElem? (i := 15) rfl)) (hw _ (List.mem_of_getElem? (i := 11) rfl)) (by decide) (by decide)) (g := (mkF m 460 #[(kI p1), (kI p2), (kI p3), (kI p4), (kI ucap), (kI un), (kI us0), (kI us1), (kI us2), (kJ (p2.toInt64)), kD, (kJ (p3.toInt64)), kD, (kJ (p4.toInt64)), kD, (kR ua), (kR uw), (kR ur), (kI uk), (kI uM), (kI up), (kJ (f5 (f5 (f5 (0 : Int64) (f3 (0 : Int32) un ucap us0 us1 us2 (p2.toInt64) (p3.toInt64) (p4.toInt64))) (f3 (1 : Int32) un ucap us0 us1 us2 (p2.toInt64) (p3.toInt64) (p4.toInt64))) (f3 (2 : Int32) un ucap us0 us1 us2 (p2.toInt64) (p3.toInt64) (p4.toInt64)))), kD] [(.long (p4.toInt64)), (.long (p3.toInt64)), (.long (p2.toInt64)), (.int us2), (.int us1), (.int us0), (.int ucap), (.int un), (.int (3 : Int32)), (.long (f5 (f5 (f5 (0 : Int64) (f3 (0 : Int32) un ucap us0 us1 us2 (p2.toInt64) (p3.toInt64) (p4.toInt64))) (f3 (1 : Int32) un ucap us0 us1 us2 (p2.toInt64) (p3.toInt64) (p4.toInt64))) (f3 (2 : Int32) un ucap us0 us1 us2 (p2.toInt64) (p3.toInt64) (p4.toInt64))))])) rfl (by rw [hml]; rfl) (argsL := [(.int (3 : Int32)), (.int un), (.int ucap), (.int us0), (.int us1), (.int us2), (.long (p2.toInt64)), (.long (p3.toInt64)), (.long (p4.toInt64))]) (rest := [(.long (f5 (f5 (f5 (0 : Int64) (f3 (0 : Int32) un ucap us0 us1 us2 (p2.toInt64) (p3.toInt64) (p4.toInt64))) (f3 (1 : Int32) un ucap us0 us1 us2 (p2.toInt64) (p3.toInt64) (p4.toInt64))) (f3 (2 : Int32) un ucap us0 us1 us2 (p2.toInt64) (p3.toInt64) (p4.toInt64))))]) (lenOf pd_2 rfl) rfl (by show 2 * 0 + _ ≤ _; exact Nat.le_of_eq rfl) (hb hby at_460) (fun _ _ => ⟨rfl, e10, (by decide : 32 + 0 ≤ _), (by decide : 256 + 0 ≤ _)⟩)
    dsimp only [Pt.U, Pt.locs, Pt.cells, Pt.slots] at X11 l11 y11 z11 st11 hQ11
    first | rw [l11, y11, z11] at X11 | subst l11 y11 z11
    obtain ⟨rfl, N11q, e11⟩ := hQ11
    have N11 := Fr.app N10 N11q
    obtain ⟨_, _, ⟨T12, L12, k12, n12⟩, -, X12, ⟨Lc12, hQ12, l12, y12, z12⟩, st12⟩ := Jvm.LawKit.callS X11 hx (y := (⟨"java/lang/Math", "max", "(JJ)J"⟩ : MethodName)) hown (mvT hZ (hw _ (List.mem_of_getElem? (i := 19) rfl))) (mvT hZ (hw _ (List.mem_of_getElem? (i := 20) rfl))) (mvT hZ (hw _ (List.mem_of_getElem? (i := 21) rfl))) (mvT hZ (hw _ (List.mem_of_getElem? (i := 22) rfl))) (by decide) (backOf (W := 0) (rm5 l Z a0 hw [] (f5 (f5 (f5 (0 : Int64) (f3 (0 : Int32) un ucap us0 us1 us2 (p2.toInt64) (p3.toInt64) (p4.toInt64))) (f3 (1 : Int32) un ucap us0 us1 us2 (p2.toInt64) (p3.toInt64) (p4.toInt64))) (f3 (2 : Int32) un ucap us0 us1 us2 (p2.toInt64) (p3.toInt64) (p4.toInt64))) (f3 (3 : Int32) un ucap us0 us1 us2 (p2.toInt64) (p3.toInt64) (p4.toInt64)) h2 n0 (Nat.le_trans Z0 Kl2.1)) hZ (hw _ (List.mem_of_getElem? (i := 22) rfl)) (hw _ (List.mem_of_getElem? (i := 21) rfl)) (by decide) (by decide)) (g := (mkF m 463 #[(kI p1), (kI p2), (kI p3), (kI p4), (kI ucap), (kI un), (kI us0), (kI us1), (kI us2), (kJ (p2.toInt64)), kD, (kJ (p3.toInt64)), kD, (kJ (p4.toInt64)), kD, (kR ua), (kR uw), (kR ur), (kI uk), (kI uM), (kI up), (kJ (f5 (f5 (f5 (0 : Int64) (f3 (0 : Int32) un ucap us0 us1 us2 (p2.toInt64) (p3.toInt64) (p4.toInt64))) (f3 (1 : Int32) un ucap us0 us1 us2 (p2.toInt64) (p3.toInt64) (p4.toInt64))) (f3 (2 : Int32) un ucap us0 us1 us2 (p2.toInt64) (p3.toInt64) (p4.toInt64)))), kD] [(.long (f3 (3 : Int32) un ucap us0 us1 us2 (p2.toInt64) (p3.toInt64) (p4.toInt64))), (.long (f5 (f5 (f5 (0 : Int64) (f3 (0 : Int32) un ucap us0 us1 us2 (p2.toInt64) (p3.toInt64) (p4.toInt64))) (f3 (1 : Int32) un ucap us0 us1 us2 (p2.toInt64) (p3.toInt64) (p4.toInt64))) (f3 (2 : Int32) un ucap us0 us1 us2 (p2.toInt64) (p3.toInt64) (p4.toInt64))))])) rfl (by rw [hml]; rfl) (argsL := [(.long (f5 (f5 (f5 (0 : Int64) (f3 (0 : Int32) un ucap us0 us1 us2 (p2.toInt64) (p3.toInt64) (p4.toInt64))) (f3 (1 : Int32) un ucap us0 us1 us2 (p2.toInt64) (p3.toInt64) (p4.toInt64))) (f3 (2 : Int32) un ucap us0 us1 us2 (p2.toInt64) (p3.toInt64) (p4.toInt64)))), (.long (f3 (3 : Int32) un ucap us0 us1 us2 (p2.toInt64) (p3.toInt64) (p4.toInt64)))]) (rest := []) (lenOf pd_3 rfl) rfl (by show 2 * 0 + _ ≤ _; exact Nat.le_of_eq rfl) (hb hby at_463) (fun _ _ => ⟨rfl, e11, (by decide : 32 + 0 ≤ _), (by decide : 256 + 0 ≤ _)⟩)
    dsimp only [Pt.U, Pt.locs, Pt.cells, Pt.slots] at X12 l12 y12 z12 st12 hQ12
    first | rw [l12, y12, z12] at X12 | subst l12 y12 z12
    obtain ⟨rfl, N12q, e12⟩ := hQ12
    have N12 := Fr.app N11 N12q
    obtain ⟨_, _, ⟨T13, L13, k13, n13⟩, -, X13, ⟨Lc13, hQ13, l13, y13, z13⟩, st13⟩ := Jvm.LawKit.callS X12 hx (y := (⟨"com/example/hindsight/hindsight/solvers/KnapsackHeaviestPinLaw", "value", "(IIIIIIJJJ)J"⟩ : MethodName)) hown (mvT hZ (hw _ (List.mem_of_getElem? (i := 13) rfl))) (mvT hZ (hw _ (List.mem_of_getElem? (i := 14) rfl))) (mvT hZ (hw _ (List.mem_of_getElem? (i := 11) rfl))) (mvT hZ (hw _ (List.mem_of_getElem? (i := 15) rfl))) (by decide) (backOf (W := 2) (rm3 l Z a0 hw [] (4 : Int32) un ucap us0 us1 us2 (p2.toInt64) (p3.toInt64) (p4.toInt64) h2 n0 (Nat.le_trans Z0 Kl2.1)) hZ (hw _ (List.mem_of_getElem? (i := 15) rfl)) (hw _ (List.mem_of_getElem? (i := 11) rfl)) (by decide) (by decide)) (g := (mkF m 487 #[(kI p1), (kI p2), (kI p3), (kI p4), (kI ucap), (kI un), (kI us0), (kI us1), (kI us2), (kJ (p2.toInt64)), kD, (kJ (p3.toInt64)), kD, (kJ (p4.toInt64)), kD, (kR ua), (kR uw), (kR ur), (kI uk), (kI uM), (kI up), (kJ (f5 (f5 (f5 (f5 (0 : Int64) (f3 (0 : Int32) un ucap us0 us1 us2 (p2.toInt64) (p3.toInt64) (p4.toInt64))) (f3 (1 : Int32) un ucap us0 us1 us2 (p2.toInt64) (p3.toInt64) (p4.toInt64))) (f3 (2 : Int32) un ucap us0 us1 us2 (p2.toInt64) (p3.toInt64) (p4.toInt64))) (f3 (3 : Int32) un ucap us0 us1 us2 (p2.toInt64) (p3.toInt64) (p4.toInt64)))), kD] [(.long (p4.toInt64)), (.long (p3.toInt64)), (.long (p2.toInt64)), (.int us2), (.int us1), (.int us0), (.int ucap), (.int un), (.int (4 : Int32)), (.long (f5 (f5 (f5 (f5 (0 : Int64) (f3 (0 : Int32) un ucap us0 us1 us2 (p2.toInt64) (p3.toInt64) (p4.toInt64))) (f3 (1 : Int32) un ucap us0 us1 us2 (p2.toInt64) (p3.toInt64) (p4.toInt64))) (f3 (2 : Int32) un ucap us0 us1 us2 (p2.toInt64) (p3.toInt64) (p4.toInt64))) (f3 (3 : Int32) un ucap us0 us1 us2 (p2.toInt64) (p3.toInt64) (p4.toInt64))))])) rfl (by rw [hml]; rfl) (argsL := [(.int (4 : Int32)), (.int un), (.int ucap), (.int us0), (.int us1), (.int us2), (.long (p2.toInt64)), (.long (p3.toInt64)), (.long (p4.toInt64))]) (rest := [(.long (f5 (f5 (f5 (f5 (0 : Int64) (f3 (0 : Int32) un ucap us0 us1 us2 (p2.toInt64) (p3.toInt64) (p4.toInt64))) (f3 (1 : Int32) un ucap us0 us1 us2 (p2.toInt64) (p3.toInt64) (p4.toInt64))) (f3 (2 : Int32) un ucap us0 us1 us2 (p2.toInt64) (p3.toInt64) (p4.toInt64))) (f3 (3 : Int32) un ucap us0 us1 us2 (p2.toInt64) (p3.toInt64) (p4.toInt64))))]) (lenOf pd_2 rfl) rfl (by show 2 * 0 + _ ≤ _; exact Nat.le_of_eq rfl) (hb hby at_487) (fun _ _ => ⟨rfl, e12, (by decide : 32 + 0 ≤ _), (by decide : 256 + 0 ≤ _)⟩)
    dsimp only [Pt.U, Pt.locs, Pt.cells, Pt.slots] at X13 l13 y13 z13 st13 hQ13
    first | rw [l13, y13, z13] at X13 | subst l13 y13 z13
    obtain ⟨rfl, N13q, e13⟩ := hQ13
    have N13 := Fr.app N12 N13q
    obtain ⟨_, _, ⟨T14, L14, k14, n14⟩, -, X14, ⟨Lc14, hQ14, l14, y14, z14⟩, st14⟩ := Jvm.LawKit.callS X13 hx (y := (⟨"java/lang/Math", "max", "(JJ)J"⟩ : MethodName)) hown (mvT hZ (hw _ (List.mem_of_getElem? (i := 19) rfl))) (mvT hZ (hw _ (List.mem_of_getElem? (i := 20) rfl))) (mvT hZ (hw _ (List.mem_of_getElem? (i := 21) rfl))) (mvT hZ (hw _ (List.mem_of_getElem? (i := 22) rfl))) (by decide) (backOf (W := 0) (rm5 l Z a0 hw [] (f5 (f5 (f5 (f5 (0 : Int64) (f3 (0 : Int32) un ucap us0 us1 us2 (p2.toInt64) (p3.toInt64) (p4.toInt64))) (f3 (1 : Int32) un ucap us0 us1 us2 (p2.toInt64) (p3.toInt64) (p4.toInt64))) (f3 (2 : Int32) un ucap us0 us1 us2 (p2.toInt64) (p3.toInt64) (p4.toInt64))) (f3 (3 : Int32) un ucap us0 us1 us2 (p2.toInt64) (p3.toInt64) (p4.toInt64))) (f3 (4 : Int32) un ucap us0 us1 us2 (p2.toInt64) (p3.toInt64) (p4.toInt64)) h2 n0 (Nat.le_trans Z0 Kl2.1)) hZ (hw _ (List.mem_of_getElem? (i := 22) rfl)) (hw _ (List.mem_of_getElem? (i := 21) rfl)) (by decide) (by decide)) (g := (mkF m 490 #[(kI p1), (kI p2), (kI p3), (kI p4), (kI ucap), (kI un), (kI us0), (kI us1), (kI us2), (kJ (p2.toInt64)), kD, (kJ (p3.toInt64)), kD, (kJ (p4.toInt64)), kD, (kR ua), (kR uw), (kR ur), (kI uk), (kI uM), (kI up), (kJ (f5 (f5 (f5 (f5 (0 : Int64) (f3 (0 : Int32) un ucap us0 us1 us2 (p2.toInt64) (p3.toInt64) (p4.toInt64))) (f3 (1 : Int32) un ucap us0 us1 us2 (p2.toInt64) (p3.toInt64) (p4.toInt64))) (f3 (2 : Int32) un ucap us0 us1 us2 (p2.toInt64) (p3.toInt64) (p4.toInt64))) (f3 (3 : Int32) un ucap us0 us1 us2 (p2.toInt64) (p3.toInt64) (p4.toInt64)))), kD] [(.long (f3 (4 : Int32) un ucap us0 us1 us2 (p2.toInt64) (p3.toInt64) (p4.toInt64))), (.long (f5 (f5 (f5 (f5 (0 : Int64) (f3 (0 : Int32) un ucap us0 us1 us2 (p2.toInt64) (p3.toInt64) (p4.toInt64))) (f3 (1 : Int32) un ucap us0 us1 us2 (p2.toInt64) (p3.toInt64) (p4.toInt64))) (f3 (2 : Int32) un ucap us0 us1 us2 (p2.toInt64) (p3.toInt64) (p4.toInt64))) (f3 (3 : Int32) un ucap us0 us1 us2 (p2.toInt64) (p3.toInt64) (p4.toInt64))))])) rfl (by rw [hml]; rfl) (argsL := [(.long (f5 (f5 (f5 (f5 (0 : Int64) (f3 (0 : Int32) un ucap us0 us1 us2 (p2.toInt64) (p3.toInt64) (p4.toInt64))) (f3 (1 : Int32) un ucap us0 us1 us2 (p2.toInt64) (p3.toInt64) (p4.toInt64))) (f3 (2 : Int32) un ucap us0 us1 us2 (p2.toInt64) (p3.toInt64) (p4.toInt64))) (f3 (3 : Int32) un ucap us0 us1 us2 (p2.toInt64) (p3.toInt64) (p4.toInt64)))), (.long (f3 (4 : Int32) un ucap us0 us1 us2 (p2.toInt64) (p3.toInt64) (p4.toInt64)))]) (rest := []) (lenOf pd_3 rfl) rfl (by show 2 * 0 + _ ≤ _; exact Nat.le_of_eq rfl) (hb hby at_490) (fun _ _ => ⟨rfl, e13, (by decide : 32 + 0 ≤ _), (by decide : 256 + 0 ≤ _)⟩)
    dsimp only [Pt.U, Pt.locs, Pt.cells, Pt.slots] at X14 l14 y14 z14 st14 hQ14
    first | rw [l14, y14, z14] at X14 | subst l14 y14 z14
    obtain ⟨rfl, N14q, e14⟩ := hQ14
    have N14 := Fr.app N13 N14q
    obtain ⟨_, _, ⟨T15, L15, k15, n15⟩, -, X15, ⟨Lc15, hQ15, l15, y15, z15⟩, st15⟩ := Jvm.LawKit.callS X14 hx (y := (⟨"com/example/hindsight/hindsight/solvers/KnapsackHeaviestPinLaw", "value", "(IIIIIIJJJ)J"⟩ : MethodName)) hown (mvT hZ (hw _ (List.mem_of_getElem? (i := 13) rfl))) (mvT hZ (hw _ (List.mem_of_getElem? (i := 14) rfl))) (mvT hZ (hw _ (List.mem_of_getElem? (i := 11) rfl))) (mvT hZ (hw _ (List.mem_of_getElem? (i := 15) rfl))) (by decide) (backOf (W := 2) (rm3 l Z a0 hw [] (5 : Int32) un ucap us0 us1 us2 (p2.toInt64) (p3.toInt64) (p4.toInt64) h2 n0 (Nat.le_trans Z0 Kl2.1)) hZ (hw _ (List.mem_of_getElem? (i := 15) rfl)) (hw _ (List.mem_of_getElem? (i := 11) rfl)) (by decide) (by decide)) (g := (mkF m 514 #[(kI p1), (kI p2), (kI p3), (kI p4), (kI ucap), (kI un), (kI us0), (kI us1), (kI us2), (kJ (p2.toInt64)), kD, (kJ (p3.toInt64)), kD, (kJ (p4.toInt64)), kD, (kR ua), (kR uw), (kR ur), (kI uk), (kI uM), (kI up), (kJ (f5 (f5 (f5 (f5 (f5 (0 : Int64) (f3 (0 : Int32) un ucap us0 us1 us2 (p2.toInt64) (p3.toInt64) (p4.toInt64))) (f3 (1 : Int32) un ucap us0 us1 us2 (p2.toInt64) (p3.toInt64) (p4.toInt64))) (f3 (2 : Int32) un ucap us0 us1 us2 (p2.toInt64) (p3.toInt64) (p4.toInt64))) (f3 (3 : Int32) un ucap us0 us1 us2 (p2.toInt64) (p3.toInt64) (p4.toInt64))) (f3 (4 : Int32) un ucap us0 us1 us2 (p2.toInt64) (p3.toInt64) (p4.toInt64)))), kD] [(.long (p4.toInt64)), (.long (p3.toInt64)), (.long (p2.toInt64)), (.int us2), (.int us1), (.int us0), (.int ucap), (.int un), (.int (5 : Int32)), (.long (f5 (f5 (f5 (f5 (f5 (0 : Int64) (f3 (0 : Int32) un ucap us0 us1 us2 (p2.toInt64) (p3.toInt64) (p4.toInt64))) (f3 (1 : Int32) un ucap us0 us1 us2 (p2.toInt64) (p3.toInt64) (p4.toInt64))) (f3 (2 : Int32) un ucap us0 us1 us2 (p2.toInt64) (p3.toInt64) (p4.toInt64))) (f3 (3 : Int32) un ucap us0 us1 us2 (p2.toInt64) (p3.toInt64) (p4.toInt64))) (f3 (4 : Int32) un ucap us0 us1 us2 (p2.toInt64) (p3.toInt64) (p4.toInt64))))])) rfl (by rw [hml]; rfl) (argsL := [(.int (5 : Int32)), (.int un), (.int ucap), (.int us0), (.int us1), (.int us2), (.long (p2.toInt64)), (.long (p3.toInt64)), (.long (p4.toInt64))]) (rest := [(.long (f5 (f5 (f5 (f5 (f5 (0 : Int64) (f3 (0 : Int32) un ucap us0 us1 us2 (p2.toInt64) (p3.toInt64) (p4.toInt64))) (f3 (1 : Int32) un ucap us0 us1 us2 (p2.toInt64) (p3.toInt64) (p4.toInt64))) (f3 (2 : Int32) un ucap us0 us1 us2 (p2.toInt64) (p3.toInt64) (p4.toInt64))) (f3 (3 : Int32) un ucap us0 us1 us2 (p2.toInt64) (p3.toInt64) (p4.toInt64))) (f3 (4 : Int32) un ucap us0 us1 us2 (p2.toInt64) (p3.toInt64) (p4.toInt64))))]) (lenOf pd_2 rfl) rfl (by show 2 * 0 + _ ≤ _; exact Nat.le_of_eq rfl) (hb hby at_514) (fun _ _ => ⟨rfl, e14, (by decide : 32 + 0 ≤ _), (by decide : 256 + 0 ≤ _)⟩)
    dsimp only [Pt.U, Pt.locs, Pt.cells, Pt.slots] at X15 l15 y15 z15 st15 hQ15
    first | rw [l15, y15, z15] at X15 | subst l15 y15 z15
    obtain ⟨rfl, N15q, e15⟩ := hQ15
    have N15 := Fr.app N14 N15q
    obtain ⟨_, _, ⟨T16, L16, k16, n16⟩, -, X16, ⟨Lc16, hQ16, l16, y16, z16⟩, st16⟩ := Jvm.LawKit.callS X15 hx (y := (⟨"java/lang/Math", "max", "(JJ)J"⟩ : MethodName)) hown (mvT hZ (hw _ (List.mem_of_getElem? (i := 19) rfl))) (mvT hZ (hw _ (List.mem_of_getElem? (i := 20) rfl))) (mvT hZ (hw _ (List.mem_of_getElem? (i := 21) rfl))) (mvT hZ (hw _ (List.mem_of_getElem? (i := 22) rfl))) (by decide) (backOf (W := 0) (rm5 l Z a0 hw [] (f5 (f5 (f5 (f5 (f5 (0 : Int64) (f3 (0 : Int32) un ucap us0 us1 us2 (p2.toInt64) (p3.toInt64) (p4.toInt64))) (f3 (1 : Int32) un ucap us0 us1 us2 (p2.toInt64) (p3.toInt64) (p4.toInt64))) (f3 (2 : Int32) un ucap us0 us1 us2 (p2.toInt64) (p3.toInt64) (p4.toInt64))) (f3 (3 : Int32) un ucap us0 us1 us2 (p2.toInt64) (p3.toInt64) (p4.toInt64))) (f3 (4 : Int32) un ucap us0 us1 us2 (p2.toInt64) (p3.toInt64) (p4.toInt64))) (f3 (5 : Int32) un ucap us0 us1 us2 (p2.toInt64) (p3.toInt64) (p4.toInt64)) h2 n0 (Nat.le_trans Z0 Kl2.1)) hZ (hw _ (List.mem_of_getElem? (i := 22) rfl)) (hw _ (List.mem_of_getElem? (i := 21) rfl)) (by decide) (by decide)) (g := (mkF m 517 #[(kI p1), (kI p2), (kI p3), (kI p4), (kI ucap), (kI un), (kI us0), (kI us1), (kI us2), (kJ (p2.toInt64)), kD, (kJ (p3.toInt64)), kD, (kJ (p4.toInt64)), kD, (kR ua), (kR uw), (kR ur), (kI uk), (kI uM), (kI up), (kJ (f5 (f5 (f5 (f5 (f5 (0 : Int64) (f3 (0 : Int32) un ucap us0 us1 us2 (p2.toInt64) (p3.toInt64) (p4.toInt64))) (f3 (1 : Int32) un ucap us0 us1 us2 (p2.toInt64) (p3.toInt64) (p4.toInt64))) (f3 (2 : Int32) un ucap us0 us1 us2 (p2.toInt64) (p3.toInt64) (p4.toInt64))) (f3 (3 : Int32) un ucap us0 us1 us2 (p2.toInt64) (p3.toInt64) (p4.toInt64))) (f3 (4 : Int32) un ucap us0 us1 us2 (p2.toInt64) (p3.toInt64) (p4.toInt64)))), kD] [(.long (f3 (5 : Int32) un ucap us0 us1 us2 (p2.toInt64) (p3.toInt64) (p4.toInt64))), (.long (f5 (f5 (f5 (f5 (f5 (0 : Int64) (f3 (0 : Int32) un ucap us0 us1 us2 (p2.toInt64) (p3.toInt64) (p4.toInt64))) (f3 (1 : Int32) un ucap us0 us1 us2 (p2.toInt64) (p3.toInt64) (p4.toInt64))) (f3 (2 : Int32) un ucap us0 us1 us2 (p2.toInt64) (p3.toInt64) (p4.toInt64))) (f3 (3 : Int32) un ucap us0 us1 us2 (p2.toInt64) (p3.toInt64) (p4.toInt64))) (f3 (4 : Int32) un ucap us0 us1 us2 (p2.toInt64) (p3.toInt64) (p4.toInt64))))])) rfl (by rw [hml]; rfl) (argsL := [(.long (f5 (f5 (f5 (f5 (f5 (0 : Int64) (f3 (0 : Int32) un ucap us0 us1 us2 (p2.toInt64) (p3.toInt64) (p4.toInt64))) (f3 (1 : Int32) un ucap us0 us1 us2 (p2.toInt64) (p3.toInt64) (p4.toInt64))) (f3 (2 : Int32) un ucap us0 us1 us2 (p2.toInt64) (p3.toInt64) (p4.toInt64))) (f3 (3 : Int32) un ucap us0 us1 us2 (p2.toInt64) (p3.toInt64) (p4.toInt64))) (f3 (4 : Int32) un ucap us0 us1 us2 (p2.toInt64) (p3.toInt64) (p4.toInt64)))), (.long (f3 (5 : Int32) un ucap us0 us1 us2 (p2.toInt64) (p3.toInt64) (p4.toInt64)))]) (rest := []) (lenOf pd_3 rfl) rfl (by show 2 * 0 + _ ≤ _; exact Nat.le_of_eq rfl) (hb hby at_517) (fun _ _ => ⟨rfl, e15, (by decide : 32 + 0 ≤ _), (by decide : 256 + 0 ≤ _)⟩)
    dsimp only [Pt.U, Pt.locs, Pt.cells, Pt.slots] at X16 l16 y16 z16 st16 hQ16
    first | rw [l16, y16, z16] at X16 | subst l16 y16 z16
    obtain ⟨rfl, N16q, e16⟩ := hQ16
    have N16 := Fr.app N15 N16q
    obtain ⟨_, _, ⟨T17, L17, k17, n17⟩, -, X17, ⟨Lc17, hQ17, l17, y17, z17⟩, st17⟩ := Jvm.LawKit.callS X16 hx (y := (⟨"com/example/hindsight/hindsight/solvers/KnapsackHeaviestPinLaw", "value", "(IIIIIIJJJ)J"⟩ : MethodName)) hown (mvT hZ (hw _ (List.mem_of_getElem? (i := 13) rfl))) (mvT hZ (hw _ (List.mem_of_getElem? (i := 14) rfl))) (mvT hZ (hw _ (List.mem_of_getElem? (i := 11) rfl))) (mvT hZ (hw _ (List.mem_of_getElem? (i := 15) rfl))) (by decide) (backOf (W := 2) (rm3 l Z a0 hw [] (6 : Int32) un ucap us0 us1 us2 (p2.toInt64) (p3.toInt64) (p4.toInt64) h2 n0 (Nat.le_trans Z0 Kl2.1)) hZ (hw _ (List.mem_of_getElem? (i := 15) rfl)) (hw _ (List.mem_of_getElem? (i := 11) rfl)) (by decide) (by decide)) (g := (mkF m 542 #[(kI p1), (kI p2), (kI p3), (kI p4), (kI ucap), (kI un), (kI us0), (kI us1), (kI us2), (kJ (p2.toInt64)), kD, (kJ (p3.toInt64)), kD, (kJ (p4.toInt64)), kD, (kR ua), (kR uw), (kR ur), (kI uk), (kI uM), (kI up), (kJ (f5 (f5 (f5 (f5 (f5 (f5 (0 : Int64) (f3 (0 : Int32) un ucap us0 us1 us2 (p2.toInt64) (p3.toInt64) (p4.toInt64))) (f3 (1 : Int32) un ucap us0 us1 us2 (p2.toInt64) (p3.toInt64) (p4.toInt64))) (f3 (2 : Int32) un ucap us0 us1 us2 (p2.toInt64) (p3.toInt64) (p4.toInt64))) (f3 (3 : Int32) un ucap us0 us1 us2 (p2.toInt64) (p3.toInt64) (p4.toInt64))) (f3 (4 : Int32) un ucap us0 us1 us2 (p2.toInt64) (p3.toInt64) (p4.toInt64))) (f3 (5 : Int32) un ucap us0 us1 us2 (p2.toInt64) (p3.toInt64) (p4.toInt64)))), kD] [(.long (p4.toInt64)), (.long (p3.toInt64)), (.long (p2.toInt64)), (.int us2), (.int us1), (.int us0), (.int ucap), (.int un), (.int (6 : Int32)), (.long (f5 (f5 (f5 (f5 (f5 (f5 (0 : Int64) (f3 (0 : Int32) un ucap us0 us1 us2 (p2.toInt64) (p3.toInt64) (p4.toInt64))) (f3 (1 : Int32) un ucap us0 us1 us2 (p2.toInt64) (p3.toInt64) (p4.toInt64))) (f3 (2 : Int32) un ucap us0 us1 us2 (p2.toInt64) (p3.toInt64) (p4.toInt64))) (f3 (3 : Int32) un ucap us0 us1 us2 (p2.toInt64) (p3.toInt64) (p4.toInt64))) (f3 (4 : Int32) un ucap us0 us1 us2 (p2.toInt64) (p3.toInt64) (p4.toInt64))) (f3 (5 : Int32) un ucap us0 us1 us2 (p2.toInt64) (p3.toInt64) (p4.toInt64))))])) rfl (by rw [hml]; rfl) (argsL := [(.int (6 : Int32)), (.int un), (.int ucap), (.int us0), (.int us1), (.int us2), (.long (p2.toInt64)), (.long (p3.toInt64)), (.long (p4.toInt64))]) (rest := [(.long (f5 (f5 (f5 (f5 (f5 (f5 (0 : Int64) (f3 (0 : Int32) un ucap us0 us1 us2 (p2.toInt64) (p3.toInt64) (p4.toInt64))) (f3 (1 : Int32) un ucap us0 us1 us2 (p2.toInt64) (p3.toInt64) (p4.toInt64))) (f3 (2 : Int32) un ucap us0 us1 us2 (p2.toInt64) (p3.toInt64) (p4.toInt64))) (f3 (3 : Int32) un ucap us0 us1 us2 (p2.toInt64) (p3.toInt64) (p4.toInt64))) (f3 (4 : Int32) un ucap us0 us1 us2 (p2.toInt64) (p3.toInt64) (p4.toInt64))) (f3 (5 : Int32) un ucap us0 us1 us2 (p2.toInt64) (p3.toInt64) (p4.toInt64))))]) (lenOf pd_2 rfl) rfl (by show 2 * 0 + _ ≤ _; exact Nat.le_of_eq rfl) (hb hby at_542) (fun _ _ => ⟨rfl, e16, (by decide : 32 + 0 ≤ _), (by decide : 256 + 0 ≤ _)⟩)
    dsimp only [Pt.U, Pt.locs, Pt.cells, Pt.slots] at X17 l17 y17 z17 st17 hQ17
    first | rw [l17, y17, z17] at X17 | subst l17 y17 z17
    obtain ⟨rfl, N17q, e17⟩ := hQ17
    have N17 := Fr.app N16 N17q
    obtain ⟨_, _, ⟨T18, L18, k18, n18⟩, -, X18, ⟨Lc18, hQ18, l18, y18, z18⟩, st18⟩ := Jvm.LawKit.callS X17 hx (y := (⟨"java/lang/Math", "max", "(JJ)J"⟩ : MethodName)) hown (mvT hZ (hw _ (List.mem_of_getElem? (i := 19) rfl))) (mvT hZ (hw _ (List.mem_of_getElem? (i := 20) rfl))) (mvT hZ (hw _ (List.mem_of_getElem? (i := 21) rfl))) (mvT hZ (hw _ (List.mem_of_getElem? (i := 22) rfl))) (by decide) (backOf (W := 0) (rm5 l Z a0 hw [] (f5 (f5 (f5 (f5 (f5 (f5 (0 : Int64) (f3 (0 : Int32) un ucap us0 us1 us2 (p2.toInt64) (p3.toInt64) (p4.toInt64))) (f3 (1 : Int32) un ucap us0 us1 us2 (p2.toInt64) (p3.toInt64) (p4.toInt64))) (f3 (2 : Int32) un ucap us0 us1 us2 (p2.toInt64) (p3.toInt64) (p4.toInt64))) (f3 (3 : Int32) un ucap us0 us1 us2 (p2.toInt64) (p3.toInt64) (p4.toInt64))) (f3 (4 : Int32) un ucap us0 us1 us2 (p2.toInt64) (p3.toInt64) (p4.toInt64))) (f3 (5 : Int32) un ucap us0 us1 us2 (p2.toInt64) (p3.toInt64) (p4.toInt64))) (f3 (6 : Int32) un ucap us0 us1 us2 (p2.toInt64) (p3.toInt64) (p4.toInt64)) h2 n0 (Nat.le_trans Z0 Kl2.1)) hZ (hw _ (List.mem_of_getElem? (i := 22) rfl)) (hw _ (List.mem_of_getElem? (i := 21) rfl)) (by decide) (by decide)) (g := (mkF m 545 #[(kI p1), (kI p2), (kI p3), (kI p4), (kI ucap), (kI un), (kI us0), (kI us1), (kI us2), (kJ (p2.toInt64)), kD, (kJ (p3.toInt64)), kD, (kJ (p4.toInt64)), kD, (kR ua), (kR uw), (kR ur), (kI uk), (kI uM), (kI up), (kJ (f5 (f5 (f5 (f5 (f5 (f5 (0 : Int64) (f3 (0 : Int32) un ucap us0 us1 us2 (p2.toInt64) (p3.toInt64) (p4.toInt64))) (f3 (1 : Int32) un ucap us0 us1 us2 (p2.toInt64) (p3.toInt64) (p4.toInt64))) (f3 (2 : Int32) un ucap us0 us1 us2 (p2.toInt64) (p3.toInt64) (p4.toInt64))) (f3 (3 : Int32) un ucap us0 us1 us2 (p2.toInt64) (p3.toInt64) (p4.toInt64))) (f3 (4 : Int32) un ucap us0 us1 us2 (p2.toInt64) (p3.toInt64) (p4.toInt64))) (f3 (5 : Int32) un ucap us0 us1 us2 (p2.toInt64) (p3.toInt64) (p4.toInt64)))), kD] [(.long (f3 (6 : Int32) un ucap us0 us1 us2 (p2.toInt64) (p3.toInt64) (p4.toInt64))), (.long (f5 (f5 (f5 (f5 (f5 (f5 (0 : Int64) (f3 (0 : Int32) un ucap us0 us1 us2 (p2.toInt64) (p3.toInt64) (p4.toInt64))) (f3 (1 : Int32) un ucap us0 us1 us2 (p2.toInt64) (p3.toInt64) (p4.toInt64))) (f3 (2 : Int32) un ucap us0 us1 us2 (p2.toInt64) (p3.toInt64) (p4.toInt64))) (f3 (3 : Int32) un ucap us0 us1 us2 (p2.toInt64) (p3.toInt64) (p4.toInt64))) (f3 (4 : Int32) un ucap us0 us1 us2 (p2.toInt64) (p3.toInt64) (p4.toInt64))) (f3 (5 : Int32) un ucap us0 us1 us2 (p2.toInt64) (p3.toInt64) (p4.toInt64))))])) rfl (by rw [hml]; rfl) (argsL := [(.long (f5 (f5 (f5 (f5 (f5 (f5 (0 : Int64) (f3 (0 : Int32) un ucap us0 us1 us2 (p2.toInt64) (p3.toInt64) (p4.toInt64))) (f3 (1 : Int32) un ucap us0 us1 us2 (p2.toInt64) (p3.toInt64) (p4.toInt64))) (f3 (2 : Int32) un ucap us0 us1 us2 (p2.toInt64) (p3.toInt64) (p4.toInt64))) (f3 (3 : Int32) un ucap us0 us1 us2 (p2.toInt64) (p3.toInt64) (p4.toInt64))) (f3 (4 : Int32) un ucap us0 us1 us2 (p2.toInt64) (p3.toInt64) (p4.toInt64))) (f3 (5 : Int32) un ucap us0 us1 us2 (p2.toInt64) (p3.toInt64) (p4.toInt64)))), (.long (f3 (6 : Int32) un ucap us0 us1 us2 (p2.toInt64) (p3.toInt64) (p4.toInt64)))]) (rest := []) (lenOf pd_3 rfl) rfl (by show 2 * 0 + _ ≤ _; exact Nat.le_of_eq rfl) (hb hby at_545) (fun _ _ => ⟨rfl, e17, (by decide : 32 + 0 ≤ _), (by decide : 256 + 0 ≤ _)⟩)
    dsimp only [Pt.U, Pt.locs, Pt.cells, Pt.slots] at X18 l18 y18 z18 st18 hQ18
    first | rw [l18, y18, z18] at X18 | subst l18 y18 z18
    obtain ⟨rfl, N18q, e18⟩ := hQ18
    have N18 := Fr.app N17 N18q
    obtain ⟨_, _, ⟨T19, L19, k19, n19⟩, -, X19, ⟨Lc19, hQ19, l19, y19, z19⟩, st19⟩ := Jvm.LawKit.callS X18 hx (y := (⟨"com/example/hindsight/hindsight/solvers/KnapsackHeaviestPinLaw", "value", "(IIIIIIJJJ)J"⟩ : MethodName)) hown (mvT hZ (hw _ (List.mem_of_getElem? (i := 13) rfl))) (mvT hZ (hw _ (List.mem_of_getElem? (i := 14) rfl))) (mvT hZ (hw _ (List.mem_of_getElem? (i := 11) rfl))) (mvT hZ (hw _ (List.mem_of_getElem? (i := 15) rfl))) (by decide) (backOf (W := 2) (rm3 l Z a0 hw [] (7 : Int32) un ucap us0 us1 us2 (p2.toInt64) (p3.toInt64) (p4.toInt64) h2 n0 (Nat.le_trans Z0 Kl2.1)) hZ (hw _ (List.mem_of_getElem? (i := 15) rfl)) (hw _ (List.mem_of_getElem? (i := 11) rfl)) (by decide) (by decide)) (g := (mkF m 570 #[(kI p1), (kI p2), (kI p3), (kI p4), (kI ucap), (kI un), (kI us0), (kI us1), (kI us2), (kJ (p2.toInt64)), kD, (kJ (p3.toInt64)), kD, (kJ (p4.toInt64)), kD, (kR ua), (kR uw), (kR ur), (kI uk), (kI uM), (kI up), (kJ (f5 (f5 (f5 (f5 (f5 (f5 (f5 (0 : Int64) (f3 (0 : Int32) un ucap us0 us1 us2 (p2.toInt64) (p3.toInt64) (p4.toInt64))) (f3 (1 : Int32) un ucap us0 us1 us2 (p2.toInt64) (p3.toInt64) (p4.toInt64))) (f3 (2 : Int32) un ucap us0 us1 us2 (p2.toInt64) (p3.toInt64) (p4.toInt64))) (f3 (3 : Int32) un ucap us0 us1 us2 (p2.toInt64) (p3.toInt64) (p4.toInt64))) (f3 (4 : Int32) un ucap us0 us1 us2 (p2.toInt64) (p3.toInt64) (p4.toInt64))) (f3 (5 : Int32) un ucap us0 us1 us2 (p2.toInt64) (p3.toInt64) (p4.toInt64))) (f3 (6 : Int32) un ucap us0 us1 us2 (p2.toInt64) (p3.toInt64) (p4.toInt64)))), kD] [(.long (p4.toInt64)), (.long (p3.toInt64)), (.long (p2.toInt64)), (.int us2), (.int us1), (.int us0), (.int ucap), (.int un), (.int (7 : Int32)), (.long (f5 (f5 (f5 (f5 (f5 (f5 (f5 (0 : Int64) (f3 (0 : Int32) un ucap us0 us1 us2 (p2.toInt64) (p3.toInt64) (p4.toInt64))) (f3 (1 : Int32) un ucap us0 us1 us2 (p2.toInt64) (p3.toInt64) (p4.toInt64))) (f3 (2 : Int32) un ucap us0 us1 us2 (p2.toInt64) (p3.toInt64) (p4.toInt64))) (f3 (3 : Int32) un ucap us0 us1 us2 (p2.toInt64) (p3.toInt64) (p4.toInt64))) (f3 (4 : Int32) un ucap us0 us1 us2 (p2.toInt64) (p3.toInt64) (p4.toInt64))) (f3 (5 : Int32) un ucap us0 us1 us2 (p2.toInt64) (p3.toInt64) (p4.toInt64))) (f3 (6 : Int32) un ucap us0 us1 us2 (p2.toInt64) (p3.toInt64) (p4.toInt64))))])) rfl (by rw [hml]; rfl) (argsL := [(.int (7 : Int32)), (.int un), (.int ucap), (.int us0), (.int us1), (.int us2), (.long (p2.toInt64)), (.long (p3.toInt64)), (.long (p4.toInt64))]) (rest := [(.long (f5 (f5 (f5 (f5 (f5 (f5 (f5 (0 : Int64) (f3 (0 : Int32) un ucap us0 us1 us2 (p2.toInt64) (p3.toInt64) (p4.toInt64))) (f3 (1 : Int32) un ucap us0 us1 us2 (p2.toInt64) (p3.toInt64) (p4.toInt64))) (f3 (2 : Int32) un ucap us0 us1 us2 (p2.toInt64) (p3.toInt64) (p4.toInt64))) (f3 (3 : Int32) un ucap us0 us1 us2 (p2.toInt64) (p3.toInt64) (p4.toInt64))) (f3 (4 : Int32) un ucap us0 us1 us2 (p2.toInt64) (p3.toInt64) (p4.toInt64))) (f3 (5 : Int32) un ucap us0 us1 us2 (p2.toInt64) (p3.toInt64) (p4.toInt64))) (f3 (6 : Int32) un ucap us0 us1 us2 (p2.toInt64) (p3.toInt64) (p4.toInt64))))]) (lenOf pd_2 rfl) rfl (by show 2 * 0 + _ ≤ _; exact Nat.le_of_eq rfl) (hb hby at_570) (fun _ _ => ⟨rfl, e18, (by decide : 32 + 0 ≤ _), (by decide : 256 + 0 ≤ _)⟩)
    dsimp only [Pt.U, Pt.locs, Pt.cells, Pt.slots] at X19 l19 y19 z19 st19 hQ19
    first | rw [l19, y19, z19] at X19 | subst l19 y19 z19
    obtain ⟨rfl, N19q, e19⟩ := hQ19
    have N19 := Fr.app N18 N19q
    obtain ⟨_, _, ⟨T20, L20, k20, n20⟩, -, X20, ⟨Lc20, hQ20, l20, y20, z20⟩, st20⟩ := Jvm.LawKit.callS X19 hx (y := (⟨"java/lang/Math", "max", "(JJ)J"⟩ : MethodName)) hown (mvT hZ (hw _ (List.mem_of_getElem? (i := 19) rfl))) (mvT hZ (hw _ (List.mem_of_getElem? (i := 20) rfl))) (mvT hZ (hw _ (List.mem_of_getElem? (i := 21) rfl))) (mvT hZ (hw _ (List.mem_of_getElem? (i := 22) rfl))) (by decide) (backOf (W := 0) (rm5 l Z a0 hw [] (f5 (f5 (f5 (f5 (f5 (f5 (f5 (0 : Int64) (f3 (0 : Int32) un ucap us0 us1 us2 (p2.toInt64) (p3.toInt64) (p4.toInt64))) (f3 (1 : Int32) un ucap us0 us1 us2 (p2.toInt64) (p3.toInt64) (p4.toInt64))) (f3 (2 : Int32) un ucap us0 us1 us2 (p2.toInt64) (p3.toInt64) (p4.toInt64))) (f3 (3 : Int32) un ucap us0 us1 us2 (p2.toInt64) (p3.toInt64) (p4.toInt64))) (f3 (4 : Int32) un ucap us0 us1 us2 (p2.toInt64) (p3.toInt64) (p4.toInt64))) (f3 (5 : Int32) un ucap us0 us1 us2 (p2.toInt64) (p3.toInt64) (p4.toInt64))) (f3 (6 : Int32) un ucap us0 us1 us2 (p2.toInt64) (p3.toInt64) (p4.toInt64))) (f3 (7 : Int32) un ucap us0 us1 us2 (p2.toInt64) (p3.toInt64) (p4.toInt64)) h2 n0 (Nat.le_trans Z0 Kl2.1)) hZ (hw _ (List.mem_of_getElem? (i := 22) rfl)) (hw _ (List.mem_of_getElem? (i := 21) rfl)) (by decide) (by decide)) (g := (mkF m 573 #[(kI p1), (kI p2), (kI p3), (kI p4), (kI ucap), (kI un), (kI us0), (kI us1), (kI us2), (kJ (p2.toInt64)), kD, (kJ (p3.toInt64)), kD, (kJ (p4.toInt64)), kD, (kR ua), (kR uw), (kR ur), (kI uk), (kI uM), (kI up), (kJ (f5 (f5 (f5 (f5 (f5 (f5 (f5 (0 : Int64) (f3 (0 : Int32) un ucap us0 us1 us2 (p2.toInt64) (p3.toInt64) (p4.toInt64))) (f3 (1 : Int32) un ucap us0 us1 us2 (p2.toInt64) (p3.toInt64) (p4.toInt64))) (f3 (2 : Int32) un ucap us0 us1 us2 (p2.toInt64) (p3.toInt64) (p4.toInt64))) (f3 (3 : Int32) un ucap us0 us1 us2 (p2.toInt64) (p3.toInt64) (p4.toInt64))) (f3 (4 : Int32) un ucap us0 us1 us2 (p2.toInt64) (p3.toInt64) (p4.toInt64))) (f3 (5 : Int32) un ucap us0 us1 us2 (p2.toInt64) (p3.toInt64) (p4.toInt64))) (f3 (6 : Int32) un ucap us0 us1 us2 (p2.toInt64) (p3.toInt64) (p4.toInt64)))), kD] [(.long (f3 (7 : Int32) un ucap us0 us1 us2 (p2.toInt64) (p3.toInt64) (p4.toInt64))), (.long (f5 (f5 (f5 (f5 (f5 (f5 (f5 (0 : Int64) (f3 (0 : Int32) un ucap us0 us1 us2 (p2.toInt64) (p3.toInt64) (p4.toInt64))) (f3 (1 : Int32) un ucap us0 us1 us2 (p2.toInt64) (p3.toInt64) (p4.toInt64))) (f3 (2 : Int32) un ucap us0 us1 us2 (p2.toInt64) (p3.toInt64) (p4.toInt64))) (f3 (3 : Int32) un ucap us0 us1 us2 (p2.toInt64) (p3.toInt64) (p4.toInt64))) (f3 (4 : Int32) un ucap us0 us1 us2 (p2.toInt64) (p3.toInt64) (p4.toInt64))) (f3 (5 : Int32) un ucap us0 us1 us2 (p2.toInt64) (p3.toInt64) (p4.toInt64))) (f3 (6 : Int32) un ucap us0 us1 us2 (p2.toInt64) (p3.toInt64) (p4.toInt64))))])) rfl (by rw [hml]; rfl) (argsL := [(.long (f5 (f5 (f5 (f5 (f5 (f5 (f5 (0 : Int64) (f3 (0 : Int32) un ucap us0 us1 us2 (p2.toInt64) (p3.toInt64) (p4.toInt64))) (f3 (1 : Int32) un ucap us0 us1 us2 (p2.toInt64) (p3.toInt64) (p4.toInt64))) (f3 (2 : Int32) un ucap us0 us1 us2 (p2.toInt64) (p3.toInt64) (p4.toInt64))) (f3 (3 : Int32) un ucap us0 us1 us2 (p2.toInt64) (p3.toInt64) (p4.toInt64))) (f3 (4 : Int32) un ucap us0 us1 us2 (p2.toInt64) (p3.toInt64) (p4.toInt64))) (f3 (5 : Int32) un ucap us0 us1 us2 (p2.toInt64) (p3.toInt64) (p4.toInt64))) (f3 (6 : Int32) un ucap us0 us1 us2 (p2.toInt64) (p3.toInt64) (p4.toInt64)))), (.long (f3 (7 : Int32) un ucap us0 us1 us2 (p2.toInt64) (p3.toInt64) (p4.toInt64)))]) (rest := []) (lenOf pd_3 rfl) rfl (by show 2 * 0 + _ ≤ _; exact Nat.le_of_eq rfl) (hb hby at_573) (fun _ _ => ⟨rfl, e19, (by decide : 32 + 0 ≤ _), (by decide : 256 + 0 ≤ _)⟩)
    dsimp only [Pt.U, Pt.locs, Pt.cells, Pt.slots] at X20 l20 y20 z20 st20 hQ20
    first | rw [l20, y20, z20] at X20 | subst l20 y20 z20
    obtain ⟨rfl, N20q, e20⟩ := hQ20
    have N20 := Fr.app N19 N20q
    obtain ⟨_, _, ⟨T21, L21, k21, n21⟩, -, X21, ⟨Lc21, hQ21, l21, y21, z21⟩, st21⟩ := Jvm.LawKit.callS X20 hx (y := (⟨"com/example/hindsight/hindsight/solvers/KnapsackHeaviestPinLaw", "weight", "(IJJJ)J"⟩ : MethodName)) hown (mvT hZ (hw _ (List.mem_of_getElem? (i := 16) rfl))) (mvT hZ (hw _ (List.mem_of_getElem? (i := 17) rfl))) (mvT hZ (hw _ (List.mem_of_getElem? (i := 11) rfl))) (mvT hZ (hw _ (List.mem_of_getElem? (i := 18) rfl))) (by decide) (backOf (W := 0) (rm4 l Z a0 hw [] uM (p2.toInt64) (p3.toInt64) (p4.toInt64) h2 n0 (Nat.le_trans Z0 Kl2.1)) hZ (hw _ (List.mem_of_getElem? (i := 18) rfl)) (hw _ (List.mem_of_getElem? (i := 11) rfl)) (by decide) (by decide)) (g := (mkF m 586 #[(kI p1), (kI p2), (kI p3), (kI p4), (kI ucap), (kI un), (kI us0), (kI us1), (kI us2), (kJ (p2.toInt64)), kD, (kJ (p3.toInt64)), kD, (kJ (p4.toInt64)), kD, (kR ua), (kR uw), (kR ur), (kI uk), (kI uM), (kI up), (kJ (f5 (f5 (f5 (f5 (f5 (f5 (f5 (f5 (0 : Int64) (f3 (0 : Int32) un ucap us0 us1 us2 (p2.toInt64) (p3.toInt64) (p4.toInt64))) (f3 (1 : Int32) un ucap us0 us1 us2 (p2.toInt64) (p3.toInt64) (p4.toInt64))) (f3 (2 : Int32) un ucap us0 us1 us2 (p2.toInt64) (p3.toInt64) (p4.toInt64))) (f3 (3 : Int32) un ucap us0 us1 us2 (p2.toInt64) (p3.toInt64) (p4.toInt64))) (f3 (4 : Int32) un ucap us0 us1 us2 (p2.toInt64) (p3.toInt64) (p4.toInt64))) (f3 (5 : Int32) un ucap us0 us1 us2 (p2.toInt64) (p3.toInt64) (p4.toInt64))) (f3 (6 : Int32) un ucap us0 us1 us2 (p2.toInt64) (p3.toInt64) (p4.toInt64))) (f3 (7 : Int32) un ucap us0 us1 us2 (p2.toInt64) (p3.toInt64) (p4.toInt64)))), kD] [(.long (p4.toInt64)), (.long (p3.toInt64)), (.long (p2.toInt64)), (.int uM)])) rfl (by rw [hml]; rfl) (argsL := [(.int uM), (.long (p2.toInt64)), (.long (p3.toInt64)), (.long (p4.toInt64))]) (rest := []) (lenOf pd_1 rfl) rfl (by show 2 * 0 + _ ≤ _; exact Nat.le_of_eq rfl) (hb hby at_586) (fun _ _ => ⟨rfl, e20, (by decide : 32 + 0 ≤ _), (by decide : 256 + 0 ≤ _)⟩)
    dsimp only [Pt.U, Pt.locs, Pt.cells, Pt.slots] at X21 l21 y21 z21 st21 hQ21
    first | rw [l21, y21, z21] at X21 | subst l21 y21 z21
    obtain ⟨rfl, N21q, e21⟩ := hQ21
    have N21 := Fr.app N20 N21q
    have hc22 : (lcmpW (f4 uM (p2.toInt64) (p3.toInt64) (p4.toInt64)) (f5 (f5 (f5 (f5 (f5 (f5 (f5 (f5 (0 : Int64) (f3 (0 : Int32) un ucap us0 us1 us2 (p2.toInt64) (p3.toInt64) (p4.toInt64))) (f3 (1 : Int32) un ucap us0 us1 us2 (p2.toInt64) (p3.toInt64) (p4.toInt64))) (f3 (2 : Int32) un ucap us0 us1 us2 (p2.toInt64) (p3.toInt64) (p4.toInt64))) (f3 (3 : Int32) un ucap us0 us1 us2 (p2.toInt64) (p3.toInt64) (p4.toInt64))) (f3 (4 : Int32) un ucap us0 us1 us2 (p2.toInt64) (p3.toInt64) (p4.toInt64))) (f3 (5 : Int32) un ucap us0 us1 us2 (p2.toInt64) (p3.toInt64) (p4.toInt64))) (f3 (6 : Int32) un ucap us0 us1 us2 (p2.toInt64) (p3.toInt64) (p4.toInt64))) (f3 (7 : Int32) un ucap us0 us1 us2 (p2.toInt64) (p3.toInt64) (p4.toInt64)))) = (0 : Int32) := by exact own_le.mpr hwt
    obtain ⟨fs, hr, hrun, hended, hW, hsame⟩ := X21.leave (v := some (.int (1 : Int32))) (fun h => by rw [Bd.returns] at h; cases h) hlk
    refine ⟨_, _, pre2 _ ?_, hrun, hended, _, _, rfl, ?_, ⟨_, rfl⟩, hW, hsame.mono (by decide) (by decide)⟩
    · show Steps _ _ _ (T2.setTop (mkF m 339 (Lq0 p1 p2 p3 p4 ucap us0 us1 us2 (kI un) (kR ua) (kR uw) (kR ur) (kI uk) (kI uM) (kI up) ui) [])) _
      refine XS.iload X2.here hx rfl (hb hby at_339) rfl ?_
      show Steps _ _ _ (T2.setTop (mkF m 341 (Lq0 p1 p2 p3 p4 ucap us0 us1 us2 (kI un) (kR ua) (kR uw) (kR ur) (kI uk) (kI uM) (kI up) ui) [(.int uM)])) _
      refine XS.iload X2.here hx rfl (hb hby at_341) rfl ?_
      refine XS.iload X2.here hx rfl (hb hby at_343) rfl ?_
      refine XS.iload X2.here hx rfl (hb hby at_345) rfl ?_
      show Steps _ _ _ (T2.setTop (mkF m 347 (Lq0 p1 p2 p3 p4 ucap us0 us1 us2 (kI un) (kR ua) (kR uw) (kR ur) (kI uk) (kI uM) (kI up) ui) [(.int us2), (.int us1), (.int us0), (.int uM)])) _
      refine st3 _ ?_
      show Steps _ _ _ (T3.setTop (mkF m 350 (Lq0 p1 p2 p3 p4 ucap us0 us1 us2 (kI un) (kR ua) (kR uw) (kR ur) (kI uk) (kI uM) (kI up) ui) [(.int (f2 uM us0 us1 us2))])) _
      refine XS.iload X3.here hx rfl (hb hby at_350) rfl ?_
      refine XS.icmpYes X3.here hx rfl (pc0 := 352) (pc' := 357) rfl (hb hby at_352) rfl (flt hc4).2.2.2 (by decide) (by decide) ?_
      refine XS.lconst X3.here hx rfl (hb hby at_357) ?_
      show Steps _ _ _ (T3.setTop (mkF m 358 (Lq0 p1 p2 p3 p4 ucap us0 us1 us2 (kI un) (kR ua) (kR uw) (kR ur) (kI uk) (kI uM) (kI up) ui) [(.long (0 : Int64))])) _
      refine XS.lstore X3.here hx rfl (hb hby at_358) rfl (l' := #[(kI p1), (kI p2), (kI p3), (kI p4), (kI ucap), (kI un), (kI us0), (kI us1), (kI us2), (kJ (p2.toInt64)), kD, (kJ (p3.toInt64)), kD, (kJ (p4.toInt64)), kD, (kR ua), (kR uw), (kR ur), (kI uk), (kI uM), (kI up), (kJ 0), kD]) (by rcases hsl_ui with rfl | ⟨_, rfl⟩ | ⟨_, rfl⟩ <;> rfl) ?_
      refine XS.lload X3.here hx rfl (hb hby at_360) rfl ?_
      refine XS.iconst X3.here hx rfl (hb hby at_362) ?_
      show Steps _ _ _ (T3.setTop (mkF m 363 #[(kI p1), (kI p2), (kI p3), (kI p4), (kI ucap), (kI un), (kI us0), (kI us1), (kI us2), (kJ (p2.toInt64)), kD, (kJ (p3.toInt64)), kD, (kJ (p4.toInt64)), kD, (kR ua), (kR uw), (kR ur), (kI uk), (kI uM), (kI up), (kJ 0), kD] [(.int (0 : Int32)), (.long (0 : Int64))])) _
      refine XS.iload X3.here hx rfl (hb hby at_363) rfl ?_
      refine XS.iload X3.here hx rfl (hb hby at_365) rfl ?_
      refine XS.iload X3.here hx rfl (hb hby at_367) rfl ?_
      show Steps _ _ _ (T3.setTop (mkF m 369 #[(kI p1), (kI p2), (kI p3), (kI p4), (kI ucap), (kI un), (kI us0), (kI us1), (kI us2), (kJ (p2.toInt64)), kD, (kJ (p3.toInt64)), kD, (kJ (p4.toInt64)), kD, (kR ua), (kR uw), (kR ur), (kI uk), (kI uM), (kI up), (kJ 0), kD] [(.int us0), (.int ucap), (.int un), (.int (0 : Int32)), (.long (0 : Int64))])) _
      refine XS.iload X3.here hx rfl (hb hby at_369) rfl ?_
      refine XS.iload X3.here hx rfl (hb hby at_371) rfl ?_
      refine XS.lload X3.here hx rfl (hb hby at_373) rfl ?_
      show Steps _ _ _ (T3.setTop (mkF m 375 #[(kI p1), (kI p2), (kI p3), (kI p4), (kI ucap), (kI un), (kI us0), (kI us1), (kI us2), (kJ (p2.toInt64)), kD, (kJ (p3.toInt64)), kD, (kJ (p4.toInt64)), kD, (kR ua), (kR uw), (kR ur), (kI uk), (kI uM), (kI up), (kJ 0), kD] [(.long (p2.toInt64)), (.int us2), (.int us1), (.int us0), (.int ucap), (.int un), (.int (0 : Int32)), (.long (0 : Int64))])) _
      refine XS.lload X3.here hx rfl (hb hby at_375) rfl ?_
      refine XS.lload X3.here hx rfl (hb hby at_377) rfl ?_
      show Steps _ _ _ (T3.setTop (mkF m 379 #[(kI p1), (kI p2), (kI p3), (kI p4), (kI ucap), (kI un), (kI us0), (kI us1), (kI us2), (kJ (p2.toInt64)), kD, (kJ (p3.toInt64)), kD, (kJ (p4.toInt64)), kD, (kR ua), (kR uw), (kR ur), (kI uk), (kI uM), (kI up), (kJ 0), kD] [(.long (p4.toInt64)), (.long (p3.toInt64)), (.long (p2.toInt64)), (.int us2), (.int us1), (.int us0), (.int ucap), (.int un), (.int (0 : Int32)), (.long (0 : Int64))])) _
      refine st5 _ ?_
      show Steps _ _ _ (T5.setTop (mkF m 382 #[(kI p1), (kI p2), (kI p3), (kI p4), (kI ucap), (kI un), (kI us0), (kI us1), (kI us2), (kJ (p2.toInt64)), kD, (kJ (p3.toInt64)), kD, (kJ (p4.toInt64)), kD, (kR ua), (kR uw), (kR ur), (kI uk), (kI uM), (kI up), (kJ 0), kD] [(.long (f3 (0 : Int32) un ucap us0 us1 us2 (p2.toInt64) (p3.toInt64) (p4.toInt64))), (.long (0 : Int64))])) _
      refine st6 _ ?_
      refine XS.lstore X6.here hx rfl (hb hby at_385) rfl (l' := #[(kI p1), (kI p2), (kI p3), (kI p4), (kI ucap), (kI un), (kI us0), (kI us1), (kI us2), (kJ (p2.toInt64)), kD, (kJ (p3.toInt64)), kD, (kJ (p4.toInt64)), kD, (kR ua), (kR uw), (kR ur), (kI uk), (kI uM), (kI up), (kJ (f5 (0 : Int64) (f3 (0 : Int32) un ucap us0 us1 us2 (p2.toInt64) (p3.toInt64) (p4.toInt64)))), kD]) rfl ?_
      show Steps _ _ _ (T6.setTop (mkF m 387 #[(kI p1), (kI p2), (kI p3), (kI p4), (kI ucap), (kI un), (kI us0), (kI us1), (kI us2), (kJ (p2.toInt64)), kD, (kJ (p3.toInt64)), kD, (kJ (p4.toInt64)), kD, (kR ua), (kR uw), (kR ur), (kI uk), (kI uM), (kI up), (kJ (f5 (0 : Int64) (f3 (0 : Int32) un ucap us0 us1 us2 (p2.toInt64) (p3.toInt64) (p4.toInt64)))), kD] [])) _
      refine XS.lload X6.here hx rfl (hb hby at_387) rfl ?_
      refine XS.iconst X6.here hx rfl (hb hby at_389) ?_
      refine XS.iload X6.here hx rfl (hb hby at_390) rfl ?_
      show Steps _ _ _ (T6.setTop (mkF m 392 #[(kI p1), (kI p2), (kI p3), (kI p4), (kI ucap), (kI un), (kI us0), (kI us1), (kI us2), (kJ (p2.toInt64)), kD, (kJ (p3.toInt64)), kD, (kJ (p4.toInt64)), kD, (kR ua), (kR uw), (kR ur), (kI uk), (kI uM), (kI up), (kJ (f5 (0 : Int64) (f3 (0 : Int32) un ucap us0 us1 us2 (p2.toInt64) (p3.toInt64) (p4.toInt64)))), kD] [(.int un), (.int (1 : Int32)), (.long (f5 (0 : Int64) (f3 (0 : Int32) un ucap us0 us1 us2 (p2.toInt64) (p3.toInt64) (p4.toInt64))))])) _
      refine XS.iload X6.here hx rfl (hb hby at_392) rfl ?_
      refine XS.iload X6.here hx rfl (hb hby at_394) rfl ?_
      refine XS.iload X6.here hx rfl (hb hby at_396) rfl ?_
      show Steps _ _ _ (T6.setTop (mkF m 398 #[(kI p1), (kI p2), (kI p3), (kI p4), (kI ucap), (kI un), (kI us0), (kI us1), (kI us2), (kJ (p2.toInt64)), kD, (kJ (p3.toInt64)), kD, (kJ (p4.toInt64)), kD, (kR ua), (kR uw), (kR ur), (kI uk), (kI uM), (kI up), (kJ (f5 (0 : Int64) (f3 (0 : Int32) un ucap us0 us1 us2 (p2.toInt64) (p3.toInt64) (p4.toInt64)))), kD] [(.int us1), (.int us0), (.int ucap), (.int un), (.int (1 : Int32)), (.long (f5 (0 : Int64) (f3 (0 : Int32) un ucap us0 us1 us2 (p2.toInt64) (p3.toInt64) (p4.toInt64))))])) _
      refine XS.iload X6.here hx rfl (hb hby at_398) rfl ?_
      refine XS.lload X6.here hx rfl (hb hby at_400) rfl ?_
      refine XS.lload X6.here hx rfl (hb hby at_402) rfl ?_
      show Steps _ _ _ (T6.setTop (mkF m 404 #[(kI p1), (kI p2), (kI p3), (kI p4), (kI ucap), (kI un), (kI us0), (kI us1), (kI us2), (kJ (p2.toInt64)), kD, (kJ (p3.toInt64)), kD, (kJ (p4.toInt64)), kD, (kR ua), (kR uw), (kR ur), (kI uk), (kI uM), (kI up), (kJ (f5 (0 : Int64) (f3 (0 : Int32) un ucap us0 us1 us2 (p2.toInt64) (p3.toInt64) (p4.toInt64)))), kD] [(.long (p3.toInt64)), (.long (p2.toInt64)), (.int us2), (.int us1), (.int us0), (.int ucap), (.int un), (.int (1 : Int32)), (.long (f5 (0 : Int64) (f3 (0 : Int32) un ucap us0 us1 us2 (p2.toInt64) (p3.toInt64) (p4.toInt64))))])) _
      refine XS.lload X6.here hx rfl (hb hby at_404) rfl ?_
      show Steps _ _ _ (T6.setTop (mkF m 406 #[(kI p1), (kI p2), (kI p3), (kI p4), (kI ucap), (kI un), (kI us0), (kI us1), (kI us2), (kJ (p2.toInt64)), kD, (kJ (p3.toInt64)), kD, (kJ (p4.toInt64)), kD, (kR ua), (kR uw), (kR ur), (kI uk), (kI uM), (kI up), (kJ (f5 (0 : Int64) (f3 (0 : Int32) un ucap us0 us1 us2 (p2.toInt64) (p3.toInt64) (p4.toInt64)))), kD] [(.long (p4.toInt64)), (.long (p3.toInt64)), (.long (p2.toInt64)), (.int us2), (.int us1), (.int us0), (.int ucap), (.int un), (.int (1 : Int32)), (.long (f5 (0 : Int64) (f3 (0 : Int32) un ucap us0 us1 us2 (p2.toInt64) (p3.toInt64) (p4.toInt64))))])) _
      refine st7 _ ?_
      show Steps _ _ _ (T7.setTop (mkF m 409 #[(kI p1), (kI p2), (kI p3), (kI p4), (kI ucap), (kI un), (kI us0), (kI us1), (kI us2), (kJ (p2.toInt64)), kD, (kJ (p3.toInt64)), kD, (kJ (p4.toInt64)), kD, (kR ua), (kR uw), (kR ur), (kI uk), (kI uM), (kI up), (kJ (f5 (0 : Int64) (f3 (0 : Int32) un ucap us0 us1 us2 (p2.toInt64) (p3.toInt64) (p4.toInt64)))), kD] [(.long (f3 (1 : Int32) un ucap us0 us1 us2 (p2.toInt64) (p3.toInt64) (p4.toInt64))), (.long (f5 (0 : Int64) (f3 (0 : Int32) un ucap us0 us1 us2 (p2.toInt64) (p3.toInt64) (p4.toInt64))))])) _
      refine st8 _ ?_
      refine XS.lstore X8.here hx rfl (hb hby at_412) rfl (l' := #[(kI p1), (kI p2), (kI p3), (kI p4), (kI ucap), (kI un), (kI us0), (kI us1), (kI us2), (kJ (p2.toInt64)), kD, (kJ (p3.toInt64)), kD, (kJ (p4.toInt64)), kD, (kR ua), (kR uw), (kR ur), (kI uk), (kI uM), (kI up), (kJ (f5 (f5 (0 : Int64) (f3 (0 : Int32) un ucap us0 us1 us2 (p2.toInt64) (p3.toInt64) (p4.toInt64))) (f3 (1 : Int32) un ucap us0 us1 us2 (p2.toInt64) (p3.toInt64) (p4.toInt64)))), kD]) rfl ?_
      refine XS.lload X8.here hx rfl (hb hby at_414) rfl ?_
      show Steps _ _ _ (T8.setTop (mkF m 416 #[(kI p1), (kI p2), (kI p3), (kI p4), (kI ucap), (kI un), (kI us0), (kI us1), (kI us2), (kJ (p2.toInt64)), kD, (kJ (p3.toInt64)), kD, (kJ (p4.toInt64)), kD, (kR ua), (kR uw), (kR ur), (kI uk), (kI uM), (kI up), (kJ (f5 (f5 (0 : Int64) (f3 (0 : Int32) un ucap us0 us1 us2 (p2.toInt64) (p3.toInt64) (p4.toInt64))) (f3 (1 : Int32) un ucap us0 us1 us2 (p2.toInt64) (p3.toInt64) (p4.toInt64)))), kD] [(.long (f5 (f5 (0 : Int64) (f3 (0 : Int32) un ucap us0 us1 us2 (p2.toInt64) (p3.toInt64) (p4.toInt64))) (f3 (1 : Int32) un ucap us0 us1 us2 (p2.toInt64) (p3.toInt64) (p4.toInt64))))])) _
      refine XS.iconst X8.here hx rfl (hb hby at_416) ?_
      refine XS.iload X8.here hx rfl (hb hby at_417) rfl ?_
      refine XS.iload X8.here hx rfl (hb hby at_419) rfl ?_
      show Steps _ _ _ (T8.setTop (mkF m 421 #[(kI p1), (kI p2), (kI p3), (kI p4), (kI ucap), (kI un), (kI us0), (kI us1), (kI us2), (kJ (p2.toInt64)), kD, (kJ (p3.toInt64)), kD, (kJ (p4.toInt64)), kD, (kR ua), (kR uw), (kR ur), (kI uk), (kI uM), (kI up), (kJ (f5 (f5 (0 : Int64) (f3 (0 : Int32) un ucap us0 us1 us2 (p2.toInt64) (p3.toInt64) (p4.toInt64))) (f3 (1 : Int32) un ucap us0 us1 us2 (p2.toInt64) (p3.toInt64) (p4.toInt64)))), kD] [(.int ucap), (.int un), (.int (2 : Int32)), (.long (f5 (f5 (0 : Int64) (f3 (0 : Int32) un ucap us0 us1 us2 (p2.toInt64) (p3.toInt64) (p4.toInt64))) (f3 (1 : Int32) un ucap us0 us1 us2 (p2.toInt64) (p3.toInt64) (p4.toInt64))))])) _
      refine XS.iload X8.here hx rfl (hb hby at_421) rfl ?_
      refine XS.iload X8.here hx rfl (hb hby at_423) rfl ?_
      refine XS.iload X8.here hx rfl (hb hby at_425) rfl ?_
      show Steps _ _ _ (T8.setTop (mkF m 427 #[(kI p1), (kI p2), (kI p3), (kI p4), (kI ucap), (kI un), (kI us0), (kI us1), (kI us2), (kJ (p2.toInt64)), kD, (kJ (p3.toInt64)), kD, (kJ (p4.toInt64)), kD, (kR ua), (kR uw), (kR ur), (kI uk), (kI uM), (kI up), (kJ (f5 (f5 (0 : Int64) (f3 (0 : Int32) un ucap us0 us1 us2 (p2.toInt64) (p3.toInt64) (p4.toInt64))) (f3 (1 : Int32) un ucap us0 us1 us2 (p2.toInt64) (p3.toInt64) (p4.toInt64)))), kD] [(.int us2), (.int us1), (.int us0), (.int ucap), (.int un), (.int (2 : Int32)), (.long (f5 (f5 (0 : Int64) (f3 (0 : Int32) un ucap us0 us1 us2 (p2.toInt64) (p3.toInt64) (p4.toInt64))) (f3 (1 : Int32) un ucap us0 us1 us2 (p2.toInt64) (p3.toInt64) (p4.toInt64))))])) _
      refine XS.lload X8.here hx rfl (hb hby at_427) rfl ?_
      refine XS.lload X8.here hx rfl (hb hby at_429) rfl ?_
      refine XS.lload X8.here hx rfl (hb hby at_431) rfl ?_
      show Steps _ _ _ (T8.setTop (mkF m 433 #[(kI p1), (kI p2), (kI p3), (kI p4), (kI ucap), (kI un), (kI us0), (kI us1), (kI us2), (kJ (p2.toInt64)), kD, (kJ (p3.toInt64)), kD, (kJ (p4.toInt64)), kD, (kR ua), (kR uw), (kR ur), (kI uk), (kI uM), (kI up), (kJ (f5 (f5 (0 : Int64) (f3 (0 : Int32) un ucap us0 us1 us2 (p2.toInt64) (p3.toInt64) (p4.toInt64))) (f3 (1 : Int32) un ucap us0 us1 us2 (p2.toInt64) (p3.toInt64) (p4.toInt64)))), kD] [(.long (p4.toInt64)), (.long (p3.toInt64)), (.long (p2.toInt64)), (.int us2), (.int us1), (.int us0), (.int ucap), (.int un), (.int (2 : Int32)), (.long (f5 (f5 (0 : Int64) (f3 (0 : Int32) un ucap us0 us1 us2 (p2.toInt64) (p3.toInt64) (p4.toInt64))) (f3 (1 : Int32) un ucap us0 us1 us2 (p2.toInt64) (p3.toInt64) (p4.toInt64))))])) _
      refine st9 _ ?_
      show Steps _ _ _ (T9.setTop (mkF m 436 #[(kI p1), (kI p2), (kI p3), (kI p4), (kI ucap), (kI un), (kI us0), (kI us1), (kI us2), (kJ (p2.toInt64)), kD, (kJ (p3.toInt64)), kD, (kJ (p4.toInt64)), kD, (kR ua), (kR uw), (kR ur), (kI uk), (kI uM), (kI up), (kJ (f5 (f5 (0 : Int64) (f3 (0 : Int32) un ucap us0 us1 us2 (p2.toInt64) (p3.toInt64) (p4.toInt64))) (f3 (1 : Int32) un ucap us0 us1 us2 (p2.toInt64) (p3.toInt64) (p4.toInt64)))), kD] [(.long (f3 (2 : Int32) un ucap us0 us1 us2 (p2.toInt64) (p3.toInt64) (p4.toInt64))), (.long (f5 (f5 (0 : Int64) (f3 (0 : Int32) un ucap us0 us1 us2 (p2.toInt64) (p3.toInt64) (p4.toInt64))) (f3 (1 : Int32) un ucap us0 us1 us2 (p2.toInt64) (p3.toInt64) (p4.toInt64))))])) _
      refine st10 _ ?_
      show Steps _ _ _ (T10.setTop (mkF m 439 #[(kI p1), (kI p2), (kI p3), (kI p4), (kI ucap), (kI un), (kI us0), (kI us1), (kI us2), (kJ (p2.toInt64)), kD, (kJ (p3.toInt64)), kD, (kJ (p4.toInt64)), kD, (kR ua), (kR uw), (kR ur), (kI uk), (kI uM), (kI up), (kJ (f5 (f5 (0 : Int64) (f3 (0 : Int32) un ucap us0 us1 us2 (p2.toInt64) (p3.toInt64) (p4.toInt64))) (f3 (1 : Int32) un ucap us0 us1 us2 (p2.toInt64) (p3.toInt64) (p4.toInt64)))), kD] [(.long (f5 (f5 (f5 (0 : Int64) (f3 (0 : Int32) un ucap us0 us1 us2 (p2.toInt64) (p3.toInt64) (p4.toInt64))) (f3 (1 : Int32) un ucap us0 us1 us2 (p2.toInt64) (p3.toInt64) (p4.toInt64))) (f3 (2 : Int32) un ucap us0 us1 us2 (p2.toInt64) (p3.toInt64) (p4.toInt64))))])) _
      refine XS.lstore X10.here hx rfl (hb hby at_439) rfl (l' := #[(kI p1), (kI p2), (kI p3), (kI p4), (kI ucap), (kI un), (kI us0), (kI us1), (kI us2), (kJ (p2.toInt64)), kD, (kJ (p3.toInt64)), kD, (kJ (p4.toInt64)), kD, (kR ua), (kR uw), (kR ur), (kI uk), (kI uM), (kI up), (kJ (f5 (f5 (f5 (0 : Int64) (f3 (0 : Int32) un ucap us0 us1 us2 (p2.toInt64) (p3.toInt64) (p4.toInt64))) (f3 (1 : Int32) un ucap us0 us1 us2 (p2.toInt64) (p3.toInt64) (p4.toInt64))) (f3 (2 : Int32) un ucap us0 us1 us2 (p2.toInt64) (p3.toInt64) (p4.toInt64)))), kD]) rfl ?_
      refine XS.lload X10.here hx rfl (hb hby at_441) rfl ?_
      refine XS.iconst X10.here hx rfl (hb hby at_443) ?_
      show Steps _ _ _ (T10.setTop (mkF m 444 #[(kI p1), (kI p2), (kI p3), (kI p4), (kI ucap), (kI un), (kI us0), (kI us1), (kI us2), (kJ (p2.toInt64)), kD, (kJ (p3.toInt64)), kD, (kJ (p4.toInt64)), kD, (kR ua), (kR uw), (kR ur), (kI uk), (kI uM), (kI up), (kJ (f5 (f5 (f5 (0 : Int64) (f3 (0 : Int32) un ucap us0 us1 us2 (p2.toInt64) (p3.toInt64) (p4.toInt64))) (f3 (1 : Int32) un ucap us0 us1 us2 (p2.toInt64) (p3.toInt64) (p4.toInt64))) (f3 (2 : Int32) un ucap us0 us1 us2 (p2.toInt64) (p3.toInt64) (p4.toInt64)))), kD] [(.int (3 : Int32)), (.long (f5 (f5 (f5 (0 : Int64) (f3 (0 : Int32) un ucap us0 us1 us2 (p2.toInt64) (p3.toInt64) (p4.toInt64))) (f3 (1 : Int32) un ucap us0 us1 us2 (p2.toInt64) (p3.toInt64) (p4.toInt64))) (f3 (2 : Int32) un ucap us0 us1 us2 (p2.toInt64) (p3.toInt64) (p4.toInt64))))])) _
      refine XS.iload X10.here hx rfl (hb hby at_444) rfl ?_
      refine XS.iload X10.here hx rfl (hb hby at_446) rfl ?_
      refine XS.iload X10.here hx rfl (hb hby at_448) rfl ?_
      show Steps _ _ _ (T10.setTop (mkF m 450 #[(kI p1), (kI p2), (kI p3), (kI p4), (kI ucap), (kI un), (kI us0), (kI us1), (kI us2), (kJ (p2.toInt64)), kD, (kJ (p3.toInt64)), kD, (kJ (p4.toInt64)), kD, (kR ua), (kR uw), (kR ur), (kI uk), (kI uM), (kI up), (kJ (f5 (f5 (f5 (0 : Int64) (f3 (0 : Int32) un ucap us0 us1 us2 (p2.toInt64) (p3.toInt64) (p4.toInt64))) (f3 (1 : Int32) un ucap us0 us1 us2 (p2.toInt64) (p3.toInt64) (p4.toInt64))) (f3 (2 : Int32) un ucap us0 us1 us2 (p2.toInt64) (p3.toInt64) (p4.toInt64)))), kD] [(.int us0), (.int ucap), (.int un), (.int (3 : Int32)), (.long (f5 (f5 (f5 (0 : Int64) (f3 (0 : Int32) un ucap us0 us1 us2 (p2.toInt64) (p3.toInt64) (p4.toInt64))) (f3 (1 : Int32) un ucap us0 us1 us2 (p2.toInt64) (p3.toInt64) (p4.toInt64))) (f3 (2 : Int32) un ucap us0 us1 us2 (p2.toInt64) (p3.toInt64) (p4.toInt64))))])) _
      refine XS.iload X10.here hx rfl (hb hby at_450) rfl ?_
      refine XS.iload X10.here hx rfl (hb hby at_452) rfl ?_
      refine XS.lload X10.here hx rfl (hb hby at_454) rfl ?_
      show Steps _ _ _ (T10.setTop (mkF m 456 #[(kI p1), (kI p2), (kI p3), (kI p4), (kI ucap), (kI un), (kI us0), (kI us1), (kI us2), (kJ (p2.toInt64)), kD, (kJ (p3.toInt64)), kD, (kJ (p4.toInt64)), kD, (kR ua), (kR uw), (kR ur), (kI uk), (kI uM), (kI up), (kJ (f5 (f5 (f5 (0 : Int64) (f3 (0 : Int32) un ucap us0 us1 us2 (p2.toInt64) (p3.toInt64) (p4.toInt64))) (f3 (1 : Int32) un ucap us0 us1 us2 (p2.toInt64) (p3.toInt64) (p4.toInt64))) (f3 (2 : Int32) un ucap us0 us1 us2 (p2.toInt64) (p3.toInt64) (p4.toInt64)))), kD] [(.long (p2.toInt64)), (.int us2), (.int us1), (.int us0), (.int ucap), (.int un), (.int (3 : Int32)), (.long (f5 (f5 (f5 (0 : Int64) (f3 (0 : Int32) un ucap us0 us1 us2 (p2.toInt64) (p3.toInt64) (p4.toInt64))) (f3 (1 : Int32) un ucap us0 us1 us2 (p2.toInt64) (p3.toInt64) (p4.toInt64))) (f3 (2 : Int32) un ucap us0 us1 us2 (p2.toInt64) (p3.toInt64) (p4.toInt64))))])) _
      refine XS.lload X10.here hx rfl (hb hby at_456) rfl ?_
      refine XS.lload X10.here hx rfl (hb hby at_458) rfl ?_
      show Steps _ _ _ (T10.setTop (mkF m 460 #[(kI p1), (kI p2), (kI p3), (kI p4), (kI ucap), (kI un), (kI us0), (kI us1), (kI us2), (kJ (p2.toInt64)), kD, (kJ (p3.toInt64)), kD, (kJ (p4.toInt64)), kD, (kR ua), (kR uw), (kR ur), (kI uk), (kI uM), (kI up), (kJ (f5 (f5 (f5 (0 : Int64) (f3 (0 : Int32) un ucap us0 us1 us2 (p2.toInt64) (p3.toInt64) (p4.toInt64))) (f3 (1 : Int32) un ucap us0 us1 us2 (p2.toInt64) (p3.toInt64) (p4.toInt64))) (f3 (2 : Int32) un ucap us0 us1 us2 (p2.toInt64) (p3.toInt64) (p4.toInt64)))), kD] [(.long (p4.toInt64)), (.long (p3.toInt64)), (.long (p2.toInt64)), (.int us2), (.int us1), (.int us0), (.int ucap), (.int un), (.int (3 : Int32)), (.long (f5 (f5 (f5 (0 : Int64) (f3 (0 : Int32) un ucap us0 us1 us2 (p2.toInt64) (p3.toInt64) (p4.toInt64))) (f3 (1 : Int32) un ucap us0 us1 us2 (p2.toInt64) (p3.toInt64) (p4.toInt64))) (f3 (2 : Int32) un ucap us0 us1 us2 (p2.toInt64) (p3.toInt64) (p4.toInt64))))])) _
      refine st11 _ ?_
      show Steps _ _ _ (T11.setTop (mkF m 463 #[(kI p1), (kI p2), (kI p3), (kI p4), (kI ucap), (kI un), (kI us0), (kI us1), (kI us2), (kJ (p2.toInt64)), kD, (kJ (p3.toInt64)), kD, (kJ (p4.toInt64)), kD, (kR ua), (kR uw), (kR ur), (kI uk), (kI uM), (kI up), (kJ (f5 (f5 (f5 (0 : Int64) (f3 (0 : Int32) un ucap us0 us1 us2 (p2.toInt64) (p3.toInt64) (p4.toInt64))) (f3 (1 : Int32) un ucap us0 us1 us2 (p2.toInt64) (p3.toInt64) (p4.toInt64))) (f3 (2 : Int32) un ucap us0 us1 us2 (p2.toInt64) (p3.toInt64) (p4.toInt64)))), kD] [(.long (f3 (3 : Int32) un ucap us0 us1 us2 (p2.toInt64) (p3.toInt64) (p4.toInt64))), (.long (f5 (f5 (f5 (0 : Int64) (f3 (0 : Int32) un ucap us0 us1 us2 (p2.toInt64) (p3.toInt64) (p4.toInt64))) (f3 (1 : Int32) un ucap us0 us1 us2 (p2.toInt64) (p3.toInt64) (p4.toInt64))) (f3 (2 : Int32) un ucap us0 us1 us2 (p2.toInt64) (p3.toInt64) (p4.toInt64))))])) _
      refine st12 _ ?_
      refine XS.lstore X12.here hx rfl (hb hby at_466) rfl (l' := #[(kI p1), (kI p2), (kI p3), (kI p4), (kI ucap), (kI un), (kI us0), (kI us1), (kI us2), (kJ (p2.toInt64)), kD, (kJ (p3.toInt64)), kD, (kJ (p4.toInt64)), kD, (kR ua), (kR uw), (kR ur), (kI uk), (kI uM), (kI up), (kJ (f5 (f5 (f5 (f5 (0 : Int64) (f3 (0 : Int32) un ucap us0 us1 us2 (p2.toInt64) (p3.toInt64) (p4.toInt64))) (f3 (1 : Int32) un ucap us0 us1 us2 (p2.toInt64) (p3.toInt64) (p4.toInt64))) (f3 (2 : Int32) un ucap us0 us1 us2 (p2.toInt64) (p3.toInt64) (p4.toInt64))) (f3 (3 : Int32) un ucap us0 us1 us2 (p2.toInt64) (p3.toInt64) (p4.toInt64)))), kD]) rfl ?_
      show Steps _ _ _ (T12.setTop (mkF m 468 #[(kI p1), (kI p2), (kI p3), (kI p4), (kI ucap), (kI un), (kI us0), (kI us1), (kI us2), (kJ (p2.toInt64)), kD, (kJ (p3.toInt64)), kD, (kJ (p4.toInt64)), kD, (kR ua), (kR uw), (kR ur), (kI uk), (kI uM), (kI up), (kJ (f5 (f5 (f5 (f5 (0 : Int64) (f3 (0 : Int32) un ucap us0 us1 us2 (p2.toInt64) (p3.toInt64) (p4.toInt64))) (f3 (1 : Int32) un ucap us0 us1 us2 (p2.toInt64) (p3.toInt64) (p4.toInt64))) (f3 (2 : Int32) un ucap us0 us1 us2 (p2.toInt64) (p3.toInt64) (p4.toInt64))) (f3 (3 : Int32) un ucap us0 us1 us2 (p2.toInt64) (p3.toInt64) (p4.toInt64)))), kD] [])) _
      refine XS.lload X12.here hx rfl (hb hby at_468) rfl ?_
      refine XS.iconst X12.here hx rfl (hb hby at_470) ?_
      refine XS.iload X12.here hx rfl (hb hby at_471) rfl ?_
      show Steps _ _ _ (T12.setTop (mkF m 473 #[(kI p1), (kI p2), (kI p3), (kI p4), (kI ucap), (kI un), (kI us0), (kI us1), (kI us2), (kJ (p2.toInt64)), kD, (kJ (p3.toInt64)), kD, (kJ (p4.toInt64)), kD, (kR ua), (kR uw), (kR ur), (kI uk), (kI uM), (kI up), (kJ (f5 (f5 (f5 (f5 (0 : Int64) (f3 (0 : Int32) un ucap us0 us1 us2 (p2.toInt64) (p3.toInt64) (p4.toInt64))) (f3 (1 : Int32) un ucap us0 us1 us2 (p2.toInt64) (p3.toInt64) (p4.toInt64))) (f3 (2 : Int32) un ucap us0 us1 us2 (p2.toInt64) (p3.toInt64) (p4.toInt64))) (f3 (3 : Int32) un ucap us0 us1 us2 (p2.toInt64) (p3.toInt64) (p4.toInt64)))), kD] [(.int un), (.int (4 : Int32)), (.long (f5 (f5 (f5 (f5 (0 : Int64) (f3 (0 : Int32) un ucap us0 us1 us2 (p2.toInt64) (p3.toInt64) (p4.toInt64))) (f3 (1 : Int32) un ucap us0 us1 us2 (p2.toInt64) (p3.toInt64) (p4.toInt64))) (f3 (2 : Int32) un ucap us0 us1 us2 (p2.toInt64) (p3.toInt64) (p4.toInt64))) (f3 (3 : Int32) un ucap us0 us1 us2 (p2.toInt64) (p3.toInt64) (p4.toInt64))))])) _
      refine XS.iload X12.here hx rfl (hb hby at_473) rfl ?_
      refine XS.iload X12.here hx rfl (hb hby at_475) rfl ?_
      refine XS.iload X12.here hx rfl (hb hby at_477) rfl ?_
      show Steps _ _ _ (T12.setTop (mkF m 479 #[(kI p1), (kI p2), (kI p3), (kI p4), (kI ucap), (kI un), (kI us0), (kI us1), (kI us2), (kJ (p2.toInt64)), kD, (kJ (p3.toInt64)), kD, (kJ (p4.toInt64)), kD, (kR ua), (kR uw), (kR ur), (kI uk), (kI uM), (kI up), (kJ (f5 (f5 (f5 (f5 (0 : Int64) (f3 (0 : Int32) un ucap us0 us1 us2 (p2.toInt64) (p3.toInt64) (p4.toInt64))) (f3 (1 : Int32) un ucap us0 us1 us2 (p2.toInt64) (p3.toInt64) (p4.toInt64))) (f3 (2 : Int32) un ucap us0 us1 us2 (p2.toInt64) (p3.toInt64) (p4.toInt64))) (f3 (3 : Int32) un ucap us0 us1 us2 (p2.toInt64) (p3.toInt64) (p4.toInt64)))), kD] [(.int us1), (.int us0), (.int ucap), (.int un), (.int (4 : Int32)), (.long (f5 (f5 (f5 (f5 (0 : Int64) (f3 (0 : Int32) un ucap us0 us1 us2 (p2.toInt64) (p3.toInt64) (p4.toInt64))) (f3 (1 : Int32) un ucap us0 us1 us2 (p2.toInt64) (p3.toInt64) (p4.toInt64))) (f3 (2 : Int32) un ucap us0 us1 us2 (p2.toInt64) (p3.toInt64) (p4.toInt64))) (f3 (3 : Int32) un ucap us0 us1 us2 (p2.toInt64) (p3.toInt64) (p4.toInt64))))])) _
      refine XS.iload X12.here hx rfl (hb hby at_479) rfl ?_
      refine XS.lload X12.here hx rfl (hb hby at_481) rfl ?_
      refine XS.lload X12.here hx rfl (hb hby at_483) rfl ?_
      show Steps _ _ _ (T12.setTop (mkF m 485 #[(kI p1), (kI p2), (kI p3), (kI p4), (kI ucap), (kI un), (kI us0), (kI us1), (kI us2), (kJ (p2.toInt64)), kD, (kJ (p3.toInt64)), kD, (kJ (p4.toInt64)), kD, (kR ua), (kR uw), (kR ur), (kI uk), (kI uM), (kI up), (kJ (f5 (f5 (f5 (f5 (0 : Int64) (f3 (0 : Int32) un ucap us0 us1 us2 (p2.toInt64) (p3.toInt64) (p4.toInt64))) (f3 (1 : Int32) un ucap us0 us1 us2 (p2.toInt64) (p3.toInt64) (p4.toInt64))) (f3 (2 : Int32) un ucap us0 us1 us2 (p2.toInt64) (p3.toInt64) (p4.toInt64))) (f3 (3 : Int32) un ucap us0 us1 us2 (p2.toInt64) (p3.toInt64) (p4.toInt64)))), kD] [(.long (p3.toInt64)), (.long (p2.toInt64)), (.int us2), (.int us1), (.int us0), (.int ucap), (.int un), (.int (4 : Int32)), (.long (f5 (f5 (f5 (f5 (0 : Int64) (f3 (0 : Int32) un ucap us0 us1 us2 (p2.toInt64) (p3.toInt64) (p4.toInt64))) (f3 (1 : Int32) un ucap us0 us1 us2 (p2.toInt64) (p3.toInt64) (p4.toInt64))) (f3 (2 : Int32) un ucap us0 us1 us2 (p2.toInt64) (p3.toInt64) (p4.toInt64))) (f3 (3 : Int32) un ucap us0 us1 us2 (p2.toInt64) (p3.toInt64) (p4.toInt64))))])) _
      refine XS.lload X12.here hx rfl (hb hby at_485) rfl ?_
      show Steps _ _ _ (T12.setTop (mkF m 487 #[(kI p1), (kI p2), (kI p3), (kI p4), (kI ucap), (kI un), (kI us0), (kI us1), (kI us2), (kJ (p2.toInt64)), kD, (kJ (p3.toInt64)), kD, (kJ (p4.toInt64)), kD, (kR ua), (kR uw), (kR ur), (kI uk), (kI uM), (kI up), (kJ (f5 (f5 (f5 (f5 (0 : Int64) (f3 (0 : Int32) un ucap us0 us1 us2 (p2.toInt64) (p3.toInt64) (p4.toInt64))) (f3 (1 : Int32) un ucap us0 us1 us2 (p2.toInt64) (p3.toInt64) (p4.toInt64))) (f3 (2 : Int32) un ucap us0 us1 us2 (p2.toInt64) (p3.toInt64) (p4.toInt64))) (f3 (3 : Int32) un ucap us0 us1 us2 (p2.toInt64) (p3.toInt64) (p4.toInt64)))), kD] [(.long (p4.toInt64)), (.long (p3.toInt64)), (.long (p2.toInt64)), (.int us2), (.int us1), (.int us0), (.int ucap), (.int un), (.int (4 : Int32)), (.long (f5 (f5 (f5 (f5 (0 : Int64) (f3 (0 : Int32) un ucap us0 us1 us2 (p2.toInt64) (p3.toInt64) (p4.toInt64))) (f3 (1 : Int32) un ucap us0 us1 us2 (p2.toInt64) (p3.toInt64) (p4.toInt64))) (f3 (2 : Int32) un ucap us0 us1 us2 (p2.toInt64) (p3.toInt64) (p4.toInt64))) (f3 (3 : Int32) un ucap us0 us1 us2 (p2.toInt64) (p3.toInt64) (p4.toInt64))))])) _
      refine st13 _ ?_
      show Steps _ _ _ (T13.setTop (mkF m 490 #[(kI p1), (kI p2), (kI p3), (kI p4), (kI ucap), (kI un), (kI us0), (kI us1), (kI us2), (kJ (p2.toInt64)), kD, (kJ (p3.toInt64)), kD, (kJ (p4.toInt64)), kD, (kR ua), (kR uw), (kR ur), (kI uk), (kI uM), (kI up), (kJ (f5 (f5 (f5 (f5 (0 : Int64) (f3 (0 : Int32) un ucap us0 us1 us2 (p2.toInt64) (p3.toInt64) (p4.toInt64))) (f3 (1 : Int32) un ucap us0 us1 us2 (p2.toInt64) (p3.toInt64) (p4.toInt64))) (f3 (2 : Int32) un ucap us0 us1 us2 (p2.toInt64) (p3.toInt64) (p4.toInt64))) (f3 (3 : Int32) un ucap us0 us1 us2 (p2.toInt64) (p3.toInt64) (p4.toInt64)))), kD] [(.long (f3 (4 : Int32) un ucap us0 us1 us2 (p2.toInt64) (p3.toInt64) (p4.toInt64))), (.long (f5 (f5 (f5 (f5 (0 : Int64) (f3 (0 : Int32) un ucap us0 us1 us2 (p2.toInt64) (p3.toInt64) (p4.toInt64))) (f3 (1 : Int32) un ucap us0 us1 us2 (p2.toInt64) (p3.toInt64) (p4.toInt64))) (f3 (2 : Int32) un ucap us0 us1 us2 (p2.toInt64) (p3.toInt64) (p4.toInt64))) (f3 (3 : Int32) un ucap us0 us1 us2 (p2.toInt64) (p3.toInt64) (p4.toInt64))))])) _
      refine st14 _ ?_
      refine XS.lstore X14.here hx rfl (hb hby at_493) rfl (l' := #[(kI p1), (kI p2), (kI p3), (kI p4), (kI ucap), (kI un), (kI us0), (kI us1), (kI us2), (kJ (p2.toInt64)), kD, (kJ (p3.toInt64)), kD, (kJ (p4.toInt64)), kD, (kR ua), (kR uw), (kR ur), (kI uk), (kI uM), (kI up), (kJ (f5 (f5 (f5 (f5 (f5 (0 : Int64) (f3 (0 : Int32) un ucap us0 us1 us2 (p2.toInt64) (p3.toInt64) (p4.toInt64))) (f3 (1 : Int32) un ucap us0 us1 us2 (p2.toInt64) (p3.toInt64) (p4.toInt64))) (f3 (2 : Int32) un ucap us0 us1 us2 (p2.toInt64) (p3.toInt64) (p4.toInt64))) (f3 (3 : Int32) un ucap us0 us1 us2 (p2.toInt64) (p3.toInt64) (p4.toInt64))) (f3 (4 : Int32) un ucap us0 us1 us2 (p2.toInt64) (p3.toInt64) (p4.toInt64)))), kD]) rfl ?_
      refine XS.lload X14.here hx rfl (hb hby at_495) rfl ?_
      show Steps _ _ _ (T14.setTop (mkF m 497 #[(kI p1), (kI p2), (kI p3), (kI p4), (kI ucap), (kI un), (kI us0), (kI us1), (kI us2), (kJ (p2.toInt64)), kD, (kJ (p3.toInt64)), kD, (kJ (p4.toInt64)), kD, (kR ua), (kR uw), (kR ur), (kI uk), (kI uM), (kI up), (kJ (f5 (f5 (f5 (f5 (f5 (0 : Int64) (f3 (0 : Int32) un ucap us0 us1 us2 (p2.toInt64) (p3.toInt64) (p4.toInt64))) (f3 (1 : Int32) un ucap us0 us1 us2 (p2.toInt64) (p3.toInt64) (p4.toInt64))) (f3 (2 : Int32) un ucap us0 us1 us2 (p2.toInt64) (p3.toInt64) (p4.toInt64))) (f3 (3 : Int32) un ucap us0 us1 us2 (p2.toInt64) (p3.toInt64) (p4.toInt64))) (f3 (4 : Int32) un ucap us0 us1 us2 (p2.toInt64) (p3.toInt64) (p4.toInt64)))), kD] [(.long (f5 (f5 (f5 (f5 (f5 (0 : Int64) (f3 (0 : Int32) un ucap us0 us1 us2 (p2.toInt64) (p3.toInt64) (p4.toInt64))) (f3 (1 : Int32) un ucap us0 us1 us2 (p2.toInt64) (p3.toInt64) (p4.toInt64))) (f3 (2 : Int32) un ucap us0 us1 us2 (p2.toInt64) (p3.toInt64) (p4.toInt64))) (f3 (3 : Int32) un ucap us0 us1 us2 (p2.toInt64) (p3.toInt64) (p4.toInt64))) (f3 (4 : Int32) un ucap us0 us1 us2 (p2.toInt64) (p3.toInt64) (p4.toInt64))))])) _
      refine XS.iconst X14.here hx rfl (hb hby at_497) ?_
      refine XS.iload X14.here hx rfl (hb hby at_498) rfl ?_
      refine XS.iload X14.here hx rfl (hb hby at_500) rfl ?_
      show Steps _ _ _ (T14.setTop (mkF m 502 #[(kI p1), (kI p2), (kI p3), (kI p4), (kI ucap), (kI un), (kI us0), (kI us1), (kI us2), (kJ (p2.toInt64)), kD, (kJ (p3.toInt64)), kD, (kJ (p4.toInt64)), kD, (kR ua), (kR uw), (kR ur), (kI uk), (kI uM), (kI up), (kJ (f5 (f5 (f5 (f5 (f5 (0 : Int64) (f3 (0 : Int32) un ucap us0 us1 us2 (p2.toInt64) (p3.toInt64) (p4.toInt64))) (f3 (1 : Int32) un ucap us0 us1 us2 (p2.toInt64) (p3.toInt64) (p4.toInt64))) (f3 (2 : Int32) un ucap us0 us1 us2 (p2.toInt64) (p3.toInt64) (p4.toInt64))) (f3 (3 : Int32) un ucap us0 us1 us2 (p2.toInt64) (p3.toInt64) (p4.toInt64))) (f3 (4 : Int32) un ucap us0 us1 us2 (p2.toInt64) (p3.toInt64) (p4.toInt64)))), kD] [(.int ucap), (.int un), (.int (5 : Int32)), (.long (f5 (f5 (f5 (f5 (f5 (0 : Int64) (f3 (0 : Int32) un ucap us0 us1 us2 (p2.toInt64) (p3.toInt64) (p4.toInt64))) (f3 (1 : Int32) un ucap us0 us1 us2 (p2.toInt64) (p3.toInt64) (p4.toInt64))) (f3 (2 : Int32) un ucap us0 us1 us2 (p2.toInt64) (p3.toInt64) (p4.toInt64))) (f3 (3 : Int32) un ucap us0 us1 us2 (p2.toInt64) (p3.toInt64) (p4.toInt64))) (f3 (4 : Int32) un ucap us0 us1 us2 (p2.toInt64) (p3.toInt64) (p4.toInt64))))])) _
      refine XS.iload X14.here hx rfl (hb hby at_502) rfl ?_
      refine XS.iload X14.here hx rfl (hb hby at_504) rfl ?_
      refine XS.iload X14.here hx rfl (hb hby at_506) rfl ?_
      show Steps _ _ _ (T14.setTop (mkF m 508 #[(kI p1), (kI p2), (kI p3), (kI p4), (kI ucap), (kI un), (kI us0), (kI us1), (kI us2), (kJ (p2.toInt64)), kD, (kJ (p3.toInt64)), kD, (kJ (p4.toInt64)), kD, (kR ua), (kR uw), (kR ur), (kI uk), (kI uM), (kI up), (kJ (f5 (f5 (f5 (f5 (f5 (0 : Int64) (f3 (0 : Int32) un ucap us0 us1 us2 (p2.toInt64) (p3.toInt64) (p4.toInt64))) (f3 (1 : Int32) un ucap us0 us1 us2 (p2.toInt64) (p3.toInt64) (p4.toInt64))) (f3 (2 : Int32) un ucap us0 us1 us2 (p2.toInt64) (p3.toInt64) (p4.toInt64))) (f3 (3 : Int32) un ucap us0 us1 us2 (p2.toInt64) (p3.toInt64) (p4.toInt64))) (f3 (4 : Int32) un ucap us0 us1 us2 (p2.toInt64) (p3.toInt64) (p4.toInt64)))), kD] [(.int us2), (.int us1), (.int us0), (.int ucap), (.int un), (.int (5 : Int32)), (.long (f5 (f5 (f5 (f5 (f5 (0 : Int64) (f3 (0 : Int32) un ucap us0 us1 us2 (p2.toInt64) (p3.toInt64) (p4.toInt64))) (f3 (1 : Int32) un ucap us0 us1 us2 (p2.toInt64) (p3.toInt64) (p4.toInt64))) (f3 (2 : Int32) un ucap us0 us1 us2 (p2.toInt64) (p3.toInt64) (p4.toInt64))) (f3 (3 : Int32) un ucap us0 us1 us2 (p2.toInt64) (p3.toInt64) (p4.toInt64))) (f3 (4 : Int32) un ucap us0 us1 us2 (p2.toInt64) (p3.toInt64) (p4.toInt64))))])) _
      refine XS.lload X14.here hx rfl (hb hby at_508) rfl ?_
      refine XS.lload X14.here hx rfl (hb hby at_510) rfl ?_
      refine XS.lload X14.here hx rfl (hb hby at_512) rfl ?_
      show Steps _ _ _ (T14.setTop (mkF m 514 #[(kI p1), (kI p2), (kI p3), (kI p4), (kI ucap), (kI un), (kI us0), (kI us1), (kI us2), (kJ (p2.toInt64)), kD, (kJ (p3.toInt64)), kD, (kJ (p4.toInt64)), kD, (kR ua), (kR uw), (kR ur), (kI uk), (kI uM), (kI up), (kJ (f5 (f5 (f5 (f5 (f5 (0 : Int64) (f3 (0 : Int32) un ucap us0 us1 us2 (p2.toInt64) (p3.toInt64) (p4.toInt64))) (f3 (1 : Int32) un ucap us0 us1 us2 (p2.toInt64) (p3.toInt64) (p4.toInt64))) (f3 (2 : Int32) un ucap us0 us1 us2 (p2.toInt64) (p3.toInt64) (p4.toInt64))) (f3 (3 : Int32) un ucap us0 us1 us2 (p2.toInt64) (p3.toInt64) (p4.toInt64))) (f3 (4 : Int32) un ucap us0 us1 us2 (p2.toInt64) (p3.toInt64) (p4.toInt64)))), kD] [(.long (p4.toInt64)), (.long (p3.toInt64)), (.long (p2.toInt64)), (.int us2), (.int us1), (.int us0), (.int ucap), (.int un), (.int (5 : Int32)), (.long (f5 (f5 (f5 (f5 (f5 (0 : Int64) (f3 (0 : Int32) un ucap us0 us1 us2 (p2.toInt64) (p3.toInt64) (p4.toInt64))) (f3 (1 : Int32) un ucap us0 us1 us2 (p2.toInt64) (p3.toInt64) (p4.toInt64))) (f3 (2 : Int32) un ucap us0 us1 us2 (p2.toInt64) (p3.toInt64) (p4.toInt64))) (f3 (3 : Int32) un ucap us0 us1 us2 (p2.toInt64) (p3.toInt64) (p4.toInt64))) (f3 (4 : Int32) un ucap us0 us1 us2 (p2.toInt64) (p3.toInt64) (p4.toInt64))))])) _
      refine st15 _ ?_
      show Steps _ _ _ (T15.setTop (mkF m 517 #[(kI p1), (kI p2), (kI p3), (kI p4), (kI ucap), (kI un), (kI us0), (kI us1), (kI us2), (kJ (p2.toInt64)), kD, (kJ (p3.toInt64)), kD, (kJ (p4.toInt64)), kD, (kR ua), (kR uw), (kR ur), (kI uk), (kI uM), (kI up), (kJ (f5 (f5 (f5 (f5 (f5 (0 : Int64) (f3 (0 : Int32) un ucap us0 us1 us2 (p2.toInt64) (p3.toInt64) (p4.toInt64))) (f3 (1 : Int32) un ucap us0 us1 us2 (p2.toInt64) (p3.toInt64) (p4.toInt64))) (f3 (2 : Int32) un ucap us0 us1 us2 (p2.toInt64) (p3.toInt64) (p4.toInt64))) (f3 (3 : Int32) un ucap us0 us1 us2 (p2.toInt64) (p3.toInt64) (p4.toInt64))) (f3 (4 : Int32) un ucap us0 us1 us2 (p2.toInt64) (p3.toInt64) (p4.toInt64)))), kD] [(.long (f3 (5 : Int32) un ucap us0 us1 us2 (p2.toInt64) (p3.toInt64) (p4.toInt64))), (.long (f5 (f5 (f5 (f5 (f5 (0 : Int64) (f3 (0 : Int32) un ucap us0 us1 us2 (p2.toInt64) (p3.toInt64) (p4.toInt64))) (f3 (1 : Int32) un ucap us0 us1 us2 (p2.toInt64) (p3.toInt64) (p4.toInt64))) (f3 (2 : Int32) un ucap us0 us1 us2 (p2.toInt64) (p3.toInt64) (p4.toInt64))) (f3 (3 : Int32) un ucap us0 us1 us2 (p2.toInt64) (p3.toInt64) (p4.toInt64))) (f3 (4 : Int32) un ucap us0 us1 us2 (p2.toInt64) (p3.toInt64) (p4.toInt64))))])) _
      refine st16 _ ?_
      show Steps _ _ _ (T16.setTop (mkF m 520 #[(kI p1), (kI p2), (kI p3), (kI p4), (kI ucap), (kI un), (kI us0), (kI us1), (kI us2), (kJ (p2.toInt64)), kD, (kJ (p3.toInt64)), kD, (kJ (p4.toInt64)), kD, (kR ua), (kR uw), (kR ur), (kI uk), (kI uM), (kI up), (kJ (f5 (f5 (f5 (f5 (f5 (0 : Int64) (f3 (0 : Int32) un ucap us0 us1 us2 (p2.toInt64) (p3.toInt64) (p4.toInt64))) (f3 (1 : Int32) un ucap us0 us1 us2 (p2.toInt64) (p3.toInt64) (p4.toInt64))) (f3 (2 : Int32) un ucap us0 us1 us2 (p2.toInt64) (p3.toInt64) (p4.toInt64))) (f3 (3 : Int32) un ucap us0 us1 us2 (p2.toInt64) (p3.toInt64) (p4.toInt64))) (f3 (4 : Int32) un ucap us0 us1 us2 (p2.toInt64) (p3.toInt64) (p4.toInt64)))), kD] [(.long (f5 (f5 (f5 (f5 (f5 (f5 (0 : Int64) (f3 (0 : Int32) un ucap us0 us1 us2 (p2.toInt64) (p3.toInt64) (p4.toInt64))) (f3 (1 : Int32) un ucap us0 us1 us2 (p2.toInt64) (p3.toInt64) (p4.toInt64))) (f3 (2 : Int32) un ucap us0 us1 us2 (p2.toInt64) (p3.toInt64) (p4.toInt64))) (f3 (3 : Int32) un ucap us0 us1 us2 (p2.toInt64) (p3.toInt64) (p4.toInt64))) (f3 (4 : Int32) un ucap us0 us1 us2 (p2.toInt64) (p3.toInt64) (p4.toInt64))) (f3 (5 : Int32) un ucap us0 us1 us2 (p2.toInt64) (p3.toInt64) (p4.toInt64))))])) _
      refine XS.lstore X16.here hx rfl (hb hby at_520) rfl (l' := #[(kI p1), (kI p2), (kI p3), (kI p4), (kI ucap), (kI un), (kI us0), (kI us1), (kI us2), (kJ (p2.toInt64)), kD, (kJ (p3.toInt64)), kD, (kJ (p4.toInt64)), kD, (kR ua), (kR uw), (kR ur), (kI uk), (kI uM), (kI up), (kJ (f5 (f5 (f5 (f5 (f5 (f5 (0 : Int64) (f3 (0 : Int32) un ucap us0 us1 us2 (p2.toInt64) (p3.toInt64) (p4.toInt64))) (f3 (1 : Int32) un ucap us0 us1 us2 (p2.toInt64) (p3.toInt64) (p4.toInt64))) (f3 (2 : Int32) un ucap us0 us1 us2 (p2.toInt64) (p3.toInt64) (p4.toInt64))) (f3 (3 : Int32) un ucap us0 us1 us2 (p2.toInt64) (p3.toInt64) (p4.toInt64))) (f3 (4 : Int32) un ucap us0 us1 us2 (p2.toInt64) (p3.toInt64) (p4.toInt64))) (f3 (5 : Int32) un ucap us0 us1 us2 (p2.toInt64) (p3.toInt64) (p4.toInt64)))), kD]) rfl ?_
      refine XS.lload X16.here hx rfl (hb hby at_522) rfl ?_
      refine XS.bipush X16.here hx rfl (hb hby at_524) ?_
      show Steps _ _ _ (T16.setTop (mkF m 526 #[(kI p1), (kI p2), (kI p3), (kI p4), (kI ucap), (kI un), (kI us0), (kI us1), (kI us2), (kJ (p2.toInt64)), kD, (kJ (p3.toInt64)), kD, (kJ (p4.toInt64)), kD, (kR ua), (kR uw), (kR ur), (kI uk), (kI uM), (kI up), (kJ (f5 (f5 (f5 (f5 (f5 (f5 (0 : Int64) (f3 (0 : Int32) un ucap us0 us1 us2 (p2.toInt64) (p3.toInt64) (p4.toInt64))) (f3 (1 : Int32) un ucap us0 us1 us2 (p2.toInt64) (p3.toInt64) (p4.toInt64))) (f3 (2 : Int32) un ucap us0 us1 us2 (p2.toInt64) (p3.toInt64) (p4.toInt64))) (f3 (3 : Int32) un ucap us0 us1 us2 (p2.toInt64) (p3.toInt64) (p4.toInt64))) (f3 (4 : Int32) un ucap us0 us1 us2 (p2.toInt64) (p3.toInt64) (p4.toInt64))) (f3 (5 : Int32) un ucap us0 us1 us2 (p2.toInt64) (p3.toInt64) (p4.toInt64)))), kD] [(.int (6 : Int32)), (.long (f5 (f5 (f5 (f5 (f5 (f5 (0 : Int64) (f3 (0 : Int32) un ucap us0 us1 us2 (p2.toInt64) (p3.toInt64) (p4.toInt64))) (f3 (1 : Int32) un ucap us0 us1 us2 (p2.toInt64) (p3.toInt64) (p4.toInt64))) (f3 (2 : Int32) un ucap us0 us1 us2 (p2.toInt64) (p3.toInt64) (p4.toInt64))) (f3 (3 : Int32) un ucap us0 us1 us2 (p2.toInt64) (p3.toInt64) (p4.toInt64))) (f3 (4 : Int32) un ucap us0 us1 us2 (p2.toInt64) (p3.toInt64) (p4.toInt64))) (f3 (5 : Int32) un ucap us0 us1 us2 (p2.toInt64) (p3.toInt64) (p4.toInt64))))])) _
      refine XS.iload X16.here hx rfl (hb hby at_526) rfl ?_
      refine XS.iload X16.here hx rfl (hb hby at_528) rfl ?_
      refine XS.iload X16.here hx rfl (hb hby at_530) rfl ?_
      show Steps _ _ _ (T16.setTop (mkF m 532 #[(kI p1), (kI p2), (kI p3), (kI p4), (kI ucap), (kI un), (kI us0), (kI us1), (kI us2), (kJ (p2.toInt64)), kD, (kJ (p3.toInt64)), kD, (kJ (p4.toInt64)), kD, (kR ua), (kR uw), (kR ur), (kI uk), (kI uM), (kI up), (kJ (f5 (f5 (f5 (f5 (f5 (f5 (0 : Int64) (f3 (0 : Int32) un ucap us0 us1 us2 (p2.toInt64) (p3.toInt64) (p4.toInt64))) (f3 (1 : Int32) un ucap us0 us1 us2 (p2.toInt64) (p3.toInt64) (p4.toInt64))) (f3 (2 : Int32) un ucap us0 us1 us2 (p2.toInt64) (p3.toInt64) (p4.toInt64))) (f3 (3 : Int32) un ucap us0 us1 us2 (p2.toInt64) (p3.toInt64) (p4.toInt64))) (f3 (4 : Int32) un ucap us0 us1 us2 (p2.toInt64) (p3.toInt64) (p4.toInt64))) (f3 (5 : Int32) un ucap us0 us1 us2 (p2.toInt64) (p3.toInt64) (p4.toInt64)))), kD] [(.int us0), (.int ucap), (.int un), (.int (6 : Int32)), (.long (f5 (f5 (f5 (f5 (f5 (f5 (0 : Int64) (f3 (0 : Int32) un ucap us0 us1 us2 (p2.toInt64) (p3.toInt64) (p4.toInt64))) (f3 (1 : Int32) un ucap us0 us1 us2 (p2.toInt64) (p3.toInt64) (p4.toInt64))) (f3 (2 : Int32) un ucap us0 us1 us2 (p2.toInt64) (p3.toInt64) (p4.toInt64))) (f3 (3 : Int32) un ucap us0 us1 us2 (p2.toInt64) (p3.toInt64) (p4.toInt64))) (f3 (4 : Int32) un ucap us0 us1 us2 (p2.toInt64) (p3.toInt64) (p4.toInt64))) (f3 (5 : Int32) un ucap us0 us1 us2 (p2.toInt64) (p3.toInt64) (p4.toInt64))))])) _
      refine XS.iload X16.here hx rfl (hb hby at_532) rfl ?_
      refine XS.iload X16.here hx rfl (hb hby at_534) rfl ?_
      refine XS.lload X16.here hx rfl (hb hby at_536) rfl ?_
      show Steps _ _ _ (T16.setTop (mkF m 538 #[(kI p1), (kI p2), (kI p3), (kI p4), (kI ucap), (kI un), (kI us0), (kI us1), (kI us2), (kJ (p2.toInt64)), kD, (kJ (p3.toInt64)), kD, (kJ (p4.toInt64)), kD, (kR ua), (kR uw), (kR ur), (kI uk), (kI uM), (kI up), (kJ (f5 (f5 (f5 (f5 (f5 (f5 (0 : Int64) (f3 (0 : Int32) un ucap us0 us1 us2 (p2.toInt64) (p3.toInt64) (p4.toInt64))) (f3 (1 : Int32) un ucap us0 us1 us2 (p2.toInt64) (p3.toInt64) (p4.toInt64))) (f3 (2 : Int32) un ucap us0 us1 us2 (p2.toInt64) (p3.toInt64) (p4.toInt64))) (f3 (3 : Int32) un ucap us0 us1 us2 (p2.toInt64) (p3.toInt64) (p4.toInt64))) (f3 (4 : Int32) un ucap us0 us1 us2 (p2.toInt64) (p3.toInt64) (p4.toInt64))) (f3 (5 : Int32) un ucap us0 us1 us2 (p2.toInt64) (p3.toInt64) (p4.toInt64)))), kD] [(.long (p2.toInt64)), (.int us2), (.int us1), (.int us0), (.int ucap), (.int un), (.int (6 : Int32)), (.long (f5 (f5 (f5 (f5 (f5 (f5 (0 : Int64) (f3 (0 : Int32) un ucap us0 us1 us2 (p2.toInt64) (p3.toInt64) (p4.toInt64))) (f3 (1 : Int32) un ucap us0 us1 us2 (p2.toInt64) (p3.toInt64) (p4.toInt64))) (f3 (2 : Int32) un ucap us0 us1 us2 (p2.toInt64) (p3.toInt64) (p4.toInt64))) (f3 (3 : Int32) un ucap us0 us1 us2 (p2.toInt64) (p3.toInt64) (p4.toInt64))) (f3 (4 : Int32) un ucap us0 us1 us2 (p2.toInt64) (p3.toInt64) (p4.toInt64))) (f3 (5 : Int32) un ucap us0 us1 us2 (p2.toInt64) (p3.toInt64) (p4.toInt64))))])) _
      refine XS.lload X16.here hx rfl (hb hby at_538) rfl ?_
      refine XS.lload X16.here hx rfl (hb hby at_540) rfl ?_
      show Steps _ _ _ (T16.setTop (mkF m 542 #[(kI p1), (kI p2), (kI p3), (kI p4), (kI ucap), (kI un), (kI us0), (kI us1), (kI us2), (kJ (p2.toInt64)), kD, (kJ (p3.toInt64)), kD, (kJ (p4.toInt64)), kD, (kR ua), (kR uw), (kR ur), (kI uk), (kI uM), (kI up), (kJ (f5 (f5 (f5 (f5 (f5 (f5 (0 : Int64) (f3 (0 : Int32) un ucap us0 us1 us2 (p2.toInt64) (p3.toInt64) (p4.toInt64))) (f3 (1 : Int32) un ucap us0 us1 us2 (p2.toInt64) (p3.toInt64) (p4.toInt64))) (f3 (2 : Int32) un ucap us0 us1 us2 (p2.toInt64) (p3.toInt64) (p4.toInt64))) (f3 (3 : Int32) un ucap us0 us1 us2 (p2.toInt64) (p3.toInt64) (p4.toInt64))) (f3 (4 : Int32) un ucap us0 us1 us2 (p2.toInt64) (p3.toInt64) (p4.toInt64))) (f3 (5 : Int32) un ucap us0 us1 us2 (p2.toInt64) (p3.toInt64) (p4.toInt64)))), kD] [(.long (p4.toInt64)), (.long (p3.toInt64)), (.long (p2.toInt64)), (.int us2), (.int us1), (.int us0), (.int ucap), (.int un), (.int (6 : Int32)), (.long (f5 (f5 (f5 (f5 (f5 (f5 (0 : Int64) (f3 (0 : Int32) un ucap us0 us1 us2 (p2.toInt64) (p3.toInt64) (p4.toInt64))) (f3 (1 : Int32) un ucap us0 us1 us2 (p2.toInt64) (p3.toInt64) (p4.toInt64))) (f3 (2 : Int32) un ucap us0 us1 us2 (p2.toInt64) (p3.toInt64) (p4.toInt64))) (f3 (3 : Int32) un ucap us0 us1 us2 (p2.toInt64) (p3.toInt64) (p4.toInt64))) (f3 (4 : Int32) un ucap us0 us1 us2 (p2.toInt64) (p3.toInt64) (p4.toInt64))) (f3 (5 : Int32) un ucap us0 us1 us2 (p2.toInt64) (p3.toInt64) (p4.toInt64))))])) _
      refine st17 _ ?_
      show Steps _ _ _ (T17.setTop (mkF m 545 #[(kI p1), (kI p2), (kI p3), (kI p4), (kI ucap), (kI un), (kI us0), (kI us1), (kI us2), (kJ (p2.toInt64)), kD, (kJ (p3.toInt64)), kD, (kJ (p4.toInt64)), kD, (kR ua), (kR uw), (kR ur), (kI uk), (kI uM), (kI up), (kJ (f5 (f5 (f5 (f5 (f5 (f5 (0 : Int64) (f3 (0 : Int32) un ucap us0 us1 us2 (p2.toInt64) (p3.toInt64) (p4.toInt64))) (f3 (1 : Int32) un ucap us0 us1 us2 (p2.toInt64) (p3.toInt64) (p4.toInt64))) (f3 (2 : Int32) un ucap us0 us1 us2 (p2.toInt64) (p3.toInt64) (p4.toInt64))) (f3 (3 : Int32) un ucap us0 us1 us2 (p2.toInt64) (p3.toInt64) (p4.toInt64))) (f3 (4 : Int32) un ucap us0 us1 us2 (p2.toInt64) (p3.toInt64) (p4.toInt64))) (f3 (5 : Int32) un ucap us0 us1 us2 (p2.toInt64) (p3.toInt64) (p4.toInt64)))), kD] [(.long (f3 (6 : Int32) un ucap us0 us1 us2 (p2.toInt64) (p3.toInt64) (p4.toInt64))), (.long (f5 (f5 (f5 (f5 (f5 (f5 (0 : Int64) (f3 (0 : Int32) un ucap us0 us1 us2 (p2.toInt64) (p3.toInt64) (p4.toInt64))) (f3 (1 : Int32) un ucap us0 us1 us2 (p2.toInt64) (p3.toInt64) (p4.toInt64))) (f3 (2 : Int32) un ucap us0 us1 us2 (p2.toInt64) (p3.toInt64) (p4.toInt64))) (f3 (3 : Int32) un ucap us0 us1 us2 (p2.toInt64) (p3.toInt64) (p4.toInt64))) (f3 (4 : Int32) un ucap us0 us1 us2 (p2.toInt64) (p3.toInt64) (p4.toInt64))) (f3 (5 : Int32) un ucap us0 us1 us2 (p2.toInt64) (p3.toInt64) (p4.toInt64))))])) _
      refine st18 _ ?_
      refine XS.lstore X18.here hx rfl (hb hby at_548) rfl (l' := #[(kI p1), (kI p2), (kI p3), (kI p4), (kI ucap), (kI un), (kI us0), (kI us1), (kI us2), (kJ (p2.toInt64)), kD, (kJ (p3.toInt64)), kD, (kJ (p4.toInt64)), kD, (kR ua), (kR uw), (kR ur), (kI uk), (kI uM), (kI up), (kJ (f5 (f5 (f5 (f5 (f5 (f5 (f5 (0 : Int64) (f3 (0 : Int32) un ucap us0 us1 us2 (p2.toInt64) (p3.toInt64) (p4.toInt64))) (f3 (1 : Int32) un ucap us0 us1 us2 (p2.toInt64) (p3.toInt64) (p4.toInt64))) (f3 (2 : Int32) un ucap us0 us1 us2 (p2.toInt64) (p3.toInt64) (p4.toInt64))) (f3 (3 : Int32) un ucap us0 us1 us2 (p2.toInt64) (p3.toInt64) (p4.toInt64))) (f3 (4 : Int32) un ucap us0 us1 us2 (p2.toInt64) (p3.toInt64) (p4.toInt64))) (f3 (5 : Int32) un ucap us0 us1 us2 (p2.toInt64) (p3.toInt64) (p4.toInt64))) (f3 (6 : Int32) un ucap us0 us1 us2 (p2.toInt64) (p3.toInt64) (p4.toInt64)))), kD]) rfl ?_
      show Steps _ _ _ (T18.setTop (mkF m 550 #[(kI p1), (kI p2), (kI p3), (kI p4), (kI ucap), (kI un), (kI us0), (kI us1), (kI us2), (kJ (p2.toInt64)), kD, (kJ (p3.toInt64)), kD, (kJ (p4.toInt64)), kD, (kR ua), (kR uw), (kR ur), (kI uk), (kI uM), (kI up), (kJ (f5 (f5 (f5 (f5 (f5 (f5 (f5 (0 : Int64) (f3 (0 : Int32) un ucap us0 us1 us2 (p2.toInt64) (p3.toInt64) (p4.toInt64))) (f3 (1 : Int32) un ucap us0 us1 us2 (p2.toInt64) (p3.toInt64) (p4.toInt64))) (f3 (2 : Int32) un ucap us0 us1 us2 (p2.toInt64) (p3.toInt64) (p4.toInt64))) (f3 (3 : Int32) un ucap us0 us1 us2 (p2.toInt64) (p3.toInt64) (p4.toInt64))) (f3 (4 : Int32) un ucap us0 us1 us2 (p2.toInt64) (p3.toInt64) (p4.toInt64))) (f3 (5 : Int32) un ucap us0 us1 us2 (p2.toInt64) (p3.toInt64) (p4.toInt64))) (f3 (6 : Int32) un ucap us0 us1 us2 (p2.toInt64) (p3.toInt64) (p4.toInt64)))), kD] [])) _
      refine XS.lload X18.here hx rfl (hb hby at_550) rfl ?_
      refine XS.bipush X18.here hx rfl (hb hby at_552) ?_
      refine XS.iload X18.here hx rfl (hb hby at_554) rfl ?_
      show Steps _ _ _ (T18.setTop (mkF m 556 #[(kI p1), (kI p2), (kI p3), (kI p4), (kI ucap), (kI un), (kI us0), (kI us1), (kI us2), (kJ (p2.toInt64)), kD, (kJ (p3.toInt64)), kD, (kJ (p4.toInt64)), kD, (kR ua), (kR uw), (kR ur), (kI uk), (kI uM), (kI up), (kJ (f5 (f5 (f5 (f5 (f5 (f5 (f5 (0 : Int64) (f3 (0 : Int32) un ucap us0 us1 us2 (p2.toInt64) (p3.toInt64) (p4.toInt64))) (f3 (1 : Int32) un ucap us0 us1 us2 (p2.toInt64) (p3.toInt64) (p4.toInt64))) (f3 (2 : Int32) un ucap us0 us1 us2 (p2.toInt64) (p3.toInt64) (p4.toInt64))) (f3 (3 : Int32) un ucap us0 us1 us2 (p2.toInt64) (p3.toInt64) (p4.toInt64))) (f3 (4 : Int32) un ucap us0 us1 us2 (p2.toInt64) (p3.toInt64) (p4.toInt64))) (f3 (5 : Int32) un ucap us0 us1 us2 (p2.toInt64) (p3.toInt64) (p4.toInt64))) (f3 (6 : Int32) un ucap us0 us1 us2 (p2.toInt64) (p3.toInt64) (p4.toInt64)))), kD] [(.int un), (.int (7 : Int32)), (.long (f5 (f5 (f5 (f5 (f5 (f5 (f5 (0 : Int64) (f3 (0 : Int32) un ucap us0 us1 us2 (p2.toInt64) (p3.toInt64) (p4.toInt64))) (f3 (1 : Int32) un ucap us0 us1 us2 (p2.toInt64) (p3.toInt64) (p4.toInt64))) (f3 (2 : Int32) un ucap us0 us1 us2 (p2.toInt64) (p3.toInt64) (p4.toInt64))) (f3 (3 : Int32) un ucap us0 us1 us2 (p2.toInt64) (p3.toInt64) (p4.toInt64))) (f3 (4 : Int32) un ucap us0 us1 us2 (p2.toInt64) (p3.toInt64) (p4.toInt64))) (f3 (5 : Int32) un ucap us0 us1 us2 (p2.toInt64) (p3.toInt64) (p4.toInt64))) (f3 (6 : Int32) un ucap us0 us1 us2 (p2.toInt64) (p3.toInt64) (p4.toInt64))))])) _
      refine XS.iload X18.here hx rfl (hb hby at_556) rfl ?_
      refine XS.iload X18.here hx rfl (hb hby at_558) rfl ?_
      refine XS.iload X18.here hx rfl (hb hby at_560) rfl ?_
      show Steps _ _ _ (T18.setTop (mkF m 562 #[(kI p1), (kI p2), (kI p3), (kI p4), (kI ucap), (kI un), (kI us0), (kI us1), (kI us2), (kJ (p2.toInt64)), kD, (kJ (p3.toInt64)), kD, (kJ (p4.toInt64)), kD, (kR ua), (kR uw), (kR ur), (kI uk), (kI uM), (kI up), (kJ (f5 (f5 (f5 (f5 (f5 (f5 (f5 (0 : Int64) (f3 (0 : Int32) un ucap us0 us1 us2 (p2.toInt64) (p3.toInt64) (p4.toInt64))) (f3 (1 : Int32) un ucap us0 us1 us2 (p2.toInt64) (p3.toInt64) (p4.toInt64))) (f3 (2 : Int32) un ucap us0 us1 us2 (p2.toInt64) (p3.toInt64) (p4.toInt64))) (f3 (3 : Int32) un ucap us0 us1 us2 (p2.toInt64) (p3.toInt64) (p4.toInt64))) (f3 (4 : Int32) un ucap us0 us1 us2 (p2.toInt64) (p3.toInt64) (p4.toInt64))) (f3 (5 : Int32) un ucap us0 us1 us2 (p2.toInt64) (p3.toInt64) (p4.toInt64))) (f3 (6 : Int32) un ucap us0 us1 us2 (p2.toInt64) (p3.toInt64) (p4.toInt64)))), kD] [(.int us1), (.int us0), (.int ucap), (.int un), (.int (7 : Int32)), (.long (f5 (f5 (f5 (f5 (f5 (f5 (f5 (0 : Int64) (f3 (0 : Int32) un ucap us0 us1 us2 (p2.toInt64) (p3.toInt64) (p4.toInt64))) (f3 (1 : Int32) un ucap us0 us1 us2 (p2.toInt64) (p3.toInt64) (p4.toInt64))) (f3 (2 : Int32) un ucap us0 us1 us2 (p2.toInt64) (p3.toInt64) (p4.toInt64))) (f3 (3 : Int32) un ucap us0 us1 us2 (p2.toInt64) (p3.toInt64) (p4.toInt64))) (f3 (4 : Int32) un ucap us0 us1 us2 (p2.toInt64) (p3.toInt64) (p4.toInt64))) (f3 (5 : Int32) un ucap us0 us1 us2 (p2.toInt64) (p3.toInt64) (p4.toInt64))) (f3 (6 : Int32) un ucap us0 us1 us2 (p2.toInt64) (p3.toInt64) (p4.toInt64))))])) _
      refine XS.iload X18.here hx rfl (hb hby at_562) rfl ?_
      refine XS.lload X18.here hx rfl (hb hby at_564) rfl ?_
      refine XS.lload X18.here hx rfl (hb hby at_566) rfl ?_
      show Steps _ _ _ (T18.setTop (mkF m 568 #[(kI p1), (kI p2), (kI p3), (kI p4), (kI ucap), (kI un), (kI us0), (kI us1), (kI us2), (kJ (p2.toInt64)), kD, (kJ (p3.toInt64)), kD, (kJ (p4.toInt64)), kD, (kR ua), (kR uw), (kR ur), (kI uk), (kI uM), (kI up), (kJ (f5 (f5 (f5 (f5 (f5 (f5 (f5 (0 : Int64) (f3 (0 : Int32) un ucap us0 us1 us2 (p2.toInt64) (p3.toInt64) (p4.toInt64))) (f3 (1 : Int32) un ucap us0 us1 us2 (p2.toInt64) (p3.toInt64) (p4.toInt64))) (f3 (2 : Int32) un ucap us0 us1 us2 (p2.toInt64) (p3.toInt64) (p4.toInt64))) (f3 (3 : Int32) un ucap us0 us1 us2 (p2.toInt64) (p3.toInt64) (p4.toInt64))) (f3 (4 : Int32) un ucap us0 us1 us2 (p2.toInt64) (p3.toInt64) (p4.toInt64))) (f3 (5 : Int32) un ucap us0 us1 us2 (p2.toInt64) (p3.toInt64) (p4.toInt64))) (f3 (6 : Int32) un ucap us0 us1 us2 (p2.toInt64) (p3.toInt64) (p4.toInt64)))), kD] [(.long (p3.toInt64)), (.long (p2.toInt64)), (.int us2), (.int us1), (.int us0), (.int ucap), (.int un), (.int (7 : Int32)), (.long (f5 (f5 (f5 (f5 (f5 (f5 (f5 (0 : Int64) (f3 (0 : Int32) un ucap us0 us1 us2 (p2.toInt64) (p3.toInt64) (p4.toInt64))) (f3 (1 : Int32) un ucap us0 us1 us2 (p2.toInt64) (p3.toInt64) (p4.toInt64))) (f3 (2 : Int32) un ucap us0 us1 us2 (p2.toInt64) (p3.toInt64) (p4.toInt64))) (f3 (3 : Int32) un ucap us0 us1 us2 (p2.toInt64) (p3.toInt64) (p4.toInt64))) (f3 (4 : Int32) un ucap us0 us1 us2 (p2.toInt64) (p3.toInt64) (p4.toInt64))) (f3 (5 : Int32) un ucap us0 us1 us2 (p2.toInt64) (p3.toInt64) (p4.toInt64))) (f3 (6 : Int32) un ucap us0 us1 us2 (p2.toInt64) (p3.toInt64) (p4.toInt64))))])) _
      refine XS.lload X18.here hx rfl (hb hby at_568) rfl ?_
      show Steps _ _ _ (T18.setTop (mkF m 570 #[(kI p1), (kI p2), (kI p3), (kI p4), (kI ucap), (kI un), (kI us0), (kI us1), (kI us2), (kJ (p2.toInt64)), kD, (kJ (p3.toInt64)), kD, (kJ (p4.toInt64)), kD, (kR ua), (kR uw), (kR ur), (kI uk), (kI uM), (kI up), (kJ (f5 (f5 (f5 (f5 (f5 (f5 (f5 (0 : Int64) (f3 (0 : Int32) un ucap us0 us1 us2 (p2.toInt64) (p3.toInt64) (p4.toInt64))) (f3 (1 : Int32) un ucap us0 us1 us2 (p2.toInt64) (p3.toInt64) (p4.toInt64))) (f3 (2 : Int32) un ucap us0 us1 us2 (p2.toInt64) (p3.toInt64) (p4.toInt64))) (f3 (3 : Int32) un ucap us0 us1 us2 (p2.toInt64) (p3.toInt64) (p4.toInt64))) (f3 (4 : Int32) un ucap us0 us1 us2 (p2.toInt64) (p3.toInt64) (p4.toInt64))) (f3 (5 : Int32) un ucap us0 us1 us2 (p2.toInt64) (p3.toInt64) (p4.toInt64))) (f3 (6 : Int32) un ucap us0 us1 us2 (p2.toInt64) (p3.toInt64) (p4.toInt64)))), kD] [(.long (p4.toInt64)), (.long (p3.toInt64)), (.long (p2.toInt64)), (.int us2), (.int us1), (.int us0), (.int ucap), (.int un), (.int (7 : Int32)), (.long (f5 (f5 (f5 (f5 (f5 (f5 (f5 (0 : Int64) (f3 (0 : Int32) un ucap us0 us1 us2 (p2.toInt64) (p3.toInt64) (p4.toInt64))) (f3 (1 : Int32) un ucap us0 us1 us2 (p2.toInt64) (p3.toInt64) (p4.toInt64))) (f3 (2 : Int32) un ucap us0 us1 us2 (p2.toInt64) (p3.toInt64) (p4.toInt64))) (f3 (3 : Int32) un ucap us0 us1 us2 (p2.toInt64) (p3.toInt64) (p4.toInt64))) (f3 (4 : Int32) un ucap us0 us1 us2 (p2.toInt64) (p3.toInt64) (p4.toInt64))) (f3 (5 : Int32) un ucap us0 us1 us2 (p2.toInt64) (p3.toInt64) (p4.toInt64))) (f3 (6 : Int32) un ucap us0 us1 us2 (p2.toInt64) (p3.toInt64) (p4.toInt64))))])) _
      refine st19 _ ?_
      show Steps _ _ _ (T19.setTop (mkF m 573 #[(kI p1), (kI p2), (kI p3), (kI p4), (kI ucap), (kI un), (kI us0), (kI us1), (kI us2), (kJ (p2.toInt64)), kD, (kJ (p3.toInt64)), kD, (kJ (p4.toInt64)), kD, (kR ua), (kR uw), (kR ur), (kI uk), (kI uM), (kI up), (kJ (f5 (f5 (f5 (f5 (f5 (f5 (f5 (0 : Int64) (f3 (0 : Int32) un ucap us0 us1 us2 (p2.toInt64) (p3.toInt64) (p4.toInt64))) (f3 (1 : Int32) un ucap us0 us1 us2 (p2.toInt64) (p3.toInt64) (p4.toInt64))) (f3 (2 : Int32) un ucap us0 us1 us2 (p2.toInt64) (p3.toInt64) (p4.toInt64))) (f3 (3 : Int32) un ucap us0 us1 us2 (p2.toInt64) (p3.toInt64) (p4.toInt64))) (f3 (4 : Int32) un ucap us0 us1 us2 (p2.toInt64) (p3.toInt64) (p4.toInt64))) (f3 (5 : Int32) un ucap us0 us1 us2 (p2.toInt64) (p3.toInt64) (p4.toInt64))) (f3 (6 : Int32) un ucap us0 us1 us2 (p2.toInt64) (p3.toInt64) (p4.toInt64)))), kD] [(.long (f3 (7 : Int32) un ucap us0 us1 us2 (p2.toInt64) (p3.toInt64) (p4.toInt64))), (.long (f5 (f5 (f5 (f5 (f5 (f5 (f5 (0 : Int64) (f3 (0 : Int32) un ucap us0 us1 us2 (p2.toInt64) (p3.toInt64) (p4.toInt64))) (f3 (1 : Int32) un ucap us0 us1 us2 (p2.toInt64) (p3.toInt64) (p4.toInt64))) (f3 (2 : Int32) un ucap us0 us1 us2 (p2.toInt64) (p3.toInt64) (p4.toInt64))) (f3 (3 : Int32) un ucap us0 us1 us2 (p2.toInt64) (p3.toInt64) (p4.toInt64))) (f3 (4 : Int32) un ucap us0 us1 us2 (p2.toInt64) (p3.toInt64) (p4.toInt64))) (f3 (5 : Int32) un ucap us0 us1 us2 (p2.toInt64) (p3.toInt64) (p4.toInt64))) (f3 (6 : Int32) un ucap us0 us1 us2 (p2.toInt64) (p3.toInt64) (p4.toInt64))))])) _
      refine st20 _ ?_
      refine XS.lstore X20.here hx rfl (hb hby at_576) rfl (l' := #[(kI p1), (kI p2), (kI p3), (kI p4), (kI ucap), (kI un), (kI us0), (kI us1), (kI us2), (kJ (p2.toInt64)), kD, (kJ (p3.toInt64)), kD, (kJ (p4.toInt64)), kD, (kR ua), (kR uw), (kR ur), (kI uk), (kI uM), (kI up), (kJ (f5 (f5 (f5 (f5 (f5 (f5 (f5 (f5 (0 : Int64) (f3 (0 : Int32) un ucap us0 us1 us2 (p2.toInt64) (p3.toInt64) (p4.toInt64))) (f3 (1 : Int32) un ucap us0 us1 us2 (p2.toInt64) (p3.toInt64) (p4.toInt64))) (f3 (2 : Int32) un ucap us0 us1 us2 (p2.toInt64) (p3.toInt64) (p4.toInt64))) (f3 (3 : Int32) un ucap us0 us1 us2 (p2.toInt64) (p3.toInt64) (p4.toInt64))) (f3 (4 : Int32) un ucap us0 us1 us2 (p2.toInt64) (p3.toInt64) (p4.toInt64))) (f3 (5 : Int32) un ucap us0 us1 us2 (p2.toInt64) (p3.toInt64) (p4.toInt64))) (f3 (6 : Int32) un ucap us0 us1 us2 (p2.toInt64) (p3.toInt64) (p4.toInt64))) (f3 (7 : Int32) un ucap us0 us1 us2 (p2.toInt64) (p3.toInt64) (p4.toInt64)))), kD]) rfl ?_
      refine XS.iload X20.here hx rfl (hb hby at_578) rfl ?_
      show Steps _ _ _ (T20.setTop (mkF m 580 #[(kI p1), (kI p2), (kI p3), (kI p4), (kI ucap), (kI un), (kI us0), (kI us1), (kI us2), (kJ (p2.toInt64)), kD, (kJ (p3.toInt64)), kD, (kJ (p4.toInt64)), kD, (kR ua), (kR uw), (kR ur), (kI uk), (kI uM), (kI up), (kJ (f5 (f5 (f5 (f5 (f5 (f5 (f5 (f5 (0 : Int64) (f3 (0 : Int32) un ucap us0 us1 us2 (p2.toInt64) (p3.toInt64) (p4.toInt64))) (f3 (1 : Int32) un ucap us0 us1 us2 (p2.toInt64) (p3.toInt64) (p4.toInt64))) (f3 (2 : Int32) un ucap us0 us1 us2 (p2.toInt64) (p3.toInt64) (p4.toInt64))) (f3 (3 : Int32) un ucap us0 us1 us2 (p2.toInt64) (p3.toInt64) (p4.toInt64))) (f3 (4 : Int32) un ucap us0 us1 us2 (p2.toInt64) (p3.toInt64) (p4.toInt64))) (f3 (5 : Int32) un ucap us0 us1 us2 (p2.toInt64) (p3.toInt64) (p4.toInt64))) (f3 (6 : Int32) un ucap us0 us1 us2 (p2.toInt64) (p3.toInt64) (p4.toInt64))) (f3 (7 : Int32) un ucap us0 us1 us2 (p2.toInt64) (p3.toInt64) (p4.toInt64)))), kD] [(.int uM)])) _
      refine XS.lload X20.here hx rfl (hb hby at_580) rfl ?_
      refine XS.lload X20.here hx rfl (hb hby at_582) rfl ?_
      refine XS.lload X20.here hx rfl (hb hby at_584) rfl ?_
      show Steps _ _ _ (T20.setTop (mkF m 586 #[(kI p1), (kI p2), (kI p3), (kI p4), (kI ucap), (kI un), (kI us0), (kI us1), (kI us2), (kJ (p2.toInt64)), kD, (kJ (p3.toInt64)), kD, (kJ (p4.toInt64)), kD, (kR ua), (kR uw), (kR ur), (kI uk), (kI uM), (kI up), (kJ (f5 (f5 (f5 (f5 (f5 (f5 (f5 (f5 (0 : Int64) (f3 (0 : Int32) un ucap us0 us1 us2 (p2.toInt64) (p3.toInt64) (p4.toInt64))) (f3 (1 : Int32) un ucap us0 us1 us2 (p2.toInt64) (p3.toInt64) (p4.toInt64))) (f3 (2 : Int32) un ucap us0 us1 us2 (p2.toInt64) (p3.toInt64) (p4.toInt64))) (f3 (3 : Int32) un ucap us0 us1 us2 (p2.toInt64) (p3.toInt64) (p4.toInt64))) (f3 (4 : Int32) un ucap us0 us1 us2 (p2.toInt64) (p3.toInt64) (p4.toInt64))) (f3 (5 : Int32) un ucap us0 us1 us2 (p2.toInt64) (p3.toInt64) (p4.toInt64))) (f3 (6 : Int32) un ucap us0 us1 us2 (p2.toInt64) (p3.toInt64) (p4.toInt64))) (f3 (7 : Int32) un ucap us0 us1 us2 (p2.toInt64) (p3.toInt64) (p4.toInt64)))), kD] [(.long (p4.toInt64)), (.long (p3.toInt64)), (.long (p2.toInt64)), (.int uM)])) _
      refine st21 _ ?_
      show Steps _ _ _ (T21.setTop (mkF m 589 #[(kI p1), (kI p2), (kI p3), (kI p4), (kI ucap), (kI un), (kI us0), (kI us1), (kI us2), (kJ (p2.toInt64)), kD, (kJ (p3.toInt64)), kD, (kJ (p4.toInt64)), kD, (kR ua), (kR uw), (kR ur), (kI uk), (kI uM), (kI up), (kJ (f5 (f5 (f5 (f5 (f5 (f5 (f5 (f5 (0 : Int64) (f3 (0 : Int32) un ucap us0 us1 us2 (p2.toInt64) (p3.toInt64) (p4.toInt64))) (f3 (1 : Int32) un ucap us0 us1 us2 (p2.toInt64) (p3.toInt64) (p4.toInt64))) (f3 (2 : Int32) un ucap us0 us1 us2 (p2.toInt64) (p3.toInt64) (p4.toInt64))) (f3 (3 : Int32) un ucap us0 us1 us2 (p2.toInt64) (p3.toInt64) (p4.toInt64))) (f3 (4 : Int32) un ucap us0 us1 us2 (p2.toInt64) (p3.toInt64) (p4.toInt64))) (f3 (5 : Int32) un ucap us0 us1 us2 (p2.toInt64) (p3.toInt64) (p4.toInt64))) (f3 (6 : Int32) un ucap us0 us1 us2 (p2.toInt64) (p3.toInt64) (p4.toInt64))) (f3 (7 : Int32) un ucap us0 us1 us2 (p2.toInt64) (p3.toInt64) (p4.toInt64)))), kD] [(.long (f4 uM (p2.toInt64) (p3.toInt64) (p4.toInt64)))])) _
      refine XS.lload X21.here hx rfl (hb hby at_589) rfl ?_
      refine XS.lcmp X21.here hx rfl (hb hby at_591) rfl ?_
      refine XS.ifNo X21.here hx rfl (hb hby at_592) rfl ((if0 _ _).trans (teq hc22).2) ?_
      show Steps _ _ _ (T21.setTop (mkF m 595 #[(kI p1), (kI p2), (kI p3), (kI p4), (kI ucap), (kI un), (kI us0), (kI us1), (kI us2), (kJ (p2.toInt64)), kD, (kJ (p3.toInt64)), kD, (kJ (p4.toInt64)), kD, (kR ua), (kR uw), (kR ur), (kI uk), (kI uM), (kI up), (kJ (f5 (f5 (f5 (f5 (f5 (f5 (f5 (f5 (0 : Int64) (f3 (0 : Int32) un ucap us0 us1 us2 (p2.toInt64) (p3.toInt64) (p4.toInt64))) (f3 (1 : Int32) un ucap us0 us1 us2 (p2.toInt64) (p3.toInt64) (p4.toInt64))) (f3 (2 : Int32) un ucap us0 us1 us2 (p2.toInt64) (p3.toInt64) (p4.toInt64))) (f3 (3 : Int32) un ucap us0 us1 us2 (p2.toInt64) (p3.toInt64) (p4.toInt64))) (f3 (4 : Int32) un ucap us0 us1 us2 (p2.toInt64) (p3.toInt64) (p4.toInt64))) (f3 (5 : Int32) un ucap us0 us1 us2 (p2.toInt64) (p3.toInt64) (p4.toInt64))) (f3 (6 : Int32) un ucap us0 us1 us2 (p2.toInt64) (p3.toInt64) (p4.toInt64))) (f3 (7 : Int32) un ucap us0 us1 us2 (p2.toInt64) (p3.toInt64) (p4.toInt64)))), kD] [])) _
      refine XS.iconst X21.here hx rfl (hb hby at_595) ?_
      refine XS.goto X21.here hx rfl (pc0 := 596) (pc' := 600) rfl (hb hby at_596) (by decide) (by decide) ?_
      show Steps _ _ _ (T21.setTop (mkF m 600 #[(kI p1), (kI p2), (kI p3), (kI p4), (kI ucap), (kI un), (kI us0), (kI us1), (kI us2), (kJ (p2.toInt64)), kD, (kJ (p3.toInt64)), kD, (kJ (p4.toInt64)), kD, (kR ua), (kR uw), (kR ur), (kI uk), (kI uM), (kI up), (kJ (f5 (f5 (f5 (f5 (f5 (f5 (f5 (f5 (0 : Int64) (f3 (0 : Int32) un ucap us0 us1 us2 (p2.toInt64) (p3.toInt64) (p4.toInt64))) (f3 (1 : Int32) un ucap us0 us1 us2 (p2.toInt64) (p3.toInt64) (p4.toInt64))) (f3 (2 : Int32) un ucap us0 us1 us2 (p2.toInt64) (p3.toInt64) (p4.toInt64))) (f3 (3 : Int32) un ucap us0 us1 us2 (p2.toInt64) (p3.toInt64) (p4.toInt64))) (f3 (4 : Int32) un ucap us0 us1 us2 (p2.toInt64) (p3.toInt64) (p4.toInt64))) (f3 (5 : Int32) un ucap us0 us1 us2 (p2.toInt64) (p3.toInt64) (p4.toInt64))) (f3 (6 : Int32) un ucap us0 us1 us2 (p2.toInt64) (p3.toInt64) (p4.toInt64))) (f3 (7 : Int32) un ucap us0 us1 us2 (p2.toInt64) (p3.toInt64) (p4.toInt64)))), kD] [(.int (1 : Int32))])) _
      exact retN X21 hx (t := .boolean) Bd.returns (by simp) (hb hby at_600) hr
    · show Q0 Z p1 p2 p3 p4 h0 n0 _ T21.heap _
      rw [e21]
      exact ⟨rfl, N21⟩
  · intro jn2
    rcases (hn4) with hk24 | hk24 | hk24 | hk24
    · have pre25 : ∀ t, Steps p.tables e below (s₁.setTop (mkF m 67 (Lq0 p1 p2 p3 p4 ucap us0 us1 us2 (kI 0) kU kU kU kU kU kU kU) [])) t → Steps p.tables e below (s₁.setTop (entryFrame m #[(.int p1), (.int p2), (.int p3), (.int p4)] maxLocals)) t := fun t k => preG t (by
        show Steps _ _ _ (s₁.setTop (mkF m 67 (Lq0 p1 p2 p3 p4 ucap us0 us1 us2 (kI un0) kU kU kU kU kU kU kU) [])) _
        rw [hk24]
        exact k)
      obtain ⟨T26, h26, k26, X26, e26, E26, A26, st26⟩ := newP X0 hx hZ (hw _ (List.mem_of_getElem? (i := 0) rfl)) e0 (g := (mkF m 69 (Lq0 p1 p2 p3 p4 ucap us0 us1 us2 (kI 0) kU kU kU kU kU kU kU) [(.int (0 : Int32))])) rfl (hb hby at_69) rfl (by decide) (cap := 0) (by decide) (by decide) (by decide) (by decide)
      obtain ⟨b26, g26⟩ : ∃ z, z = h0.size := ⟨_, rfl⟩
      rw [← g26] at A26 st26
      have g_b26 : n0 ≤ b26 := Nat.le_trans Z0 (Nat.le_of_eq g26.symm)
      have sz_b26 : h0.size ≤ b26 := Nat.le_trans (Keep.refl h0 []).1 (Nat.le_of_eq g26.symm)
      have K26 : Keep h0 h26 [] := (Keep.refl h0 []).ext E26
      have V_b26 : AV Z h26 b26 .int (0 : Int32) [] := AV.new A26 (by decide)
      obtain ⟨T27, h27, k27, X27, e27, E27, A27, st27⟩ := newP X26 hx hZ (hw _ (List.mem_of_getElem? (i := 1) rfl)) e26 (g := (mkF m 75 (Lq0 p1 p2 p3 p4 ucap us0 us1 us2 (kI 0) (kR b26) kU kU kU kU kU kU) [(.int (0 : Int32))])) rfl (hb hby at_75) rfl (by decide) (cap := 0) (by decide) (by decide) (by decide) (by decide)
      obtain ⟨b27, g27⟩ : ∃ z, z = h26.size := ⟨_, rfl⟩
      rw [← g27] at A27 st27
      have ne28 : b26 ≠ b27 := Nat.ne_of_lt (Nat.lt_of_lt_of_le V_b26.lt (Nat.le_of_eq g27.symm))
      have g_b27 : n0 ≤ b27 := Nat.le_trans (Nat.le_trans Z0 K26.1) (Nat.le_of_eq g27.symm)
      have sz_b27 : h0.size ≤ b27 := Nat.le_trans K26.1 (Nat.le_of_eq g27.symm)
      have K27 : Keep h0 h27 [] := K26.ext E27
      have V_b27 : AV Z h27 b27 .long (0 : Int32) [] := AV.new A27 (by decide)
      have F29 := (V_b26.ext E27)
      obtain ⟨_, _, ⟨T30, L30, k30, n30⟩, -, X30, ⟨Lc30, hQ30, l30, y30, z30⟩, st30⟩ := Jvm.LawKit.callS X27 hx (y := (⟨"com/example/hindsight/hindsight/solvers/Knapsack", "heaviest", "([I[JI)[I"⟩ : MethodName)) hown (mvT hZ (hw _ (List.mem_of_getElem? (i := 2) rfl))) (mvT hZ (hw _ (List.mem_of_getElem? (i := 3) rfl))) (mvT hZ (hw _ (List.mem_of_getElem? (i := 4) rfl))) (mvT hZ (hw _ (List.mem_of_getElem? (i := 5) rfl))) (by decide) (backOf (W := 0) (rm1n0 l Z a0 hw [] b26 b27 ucap h27 n0 (Nat.le_trans Z0 K27.1) F29 V_b27 (hcapL)) hZ (hw _ (List.mem_of_getElem? (i := 5) rfl)) (hw _ (List.mem_of_getElem? (i := 4) rfl)) (by decide) (by decide)) (g := (mkF m 138 (Lq0 p1 p2 p3 p4 ucap us0 us1 us2 (kI 0) (kR b26) (kR b27) kU kU kU kU kU) [(.int ucap), (.ref b27), (.ref b26)])) rfl (by rw [hml]; rfl) (argsL := [(.ref b26), (.ref b27), (.int ucap)]) (rest := []) (lenOf pd_4 rfl) rfl (by show 2 * 0 + _ ≤ _; exact Nat.le_of_eq rfl) (hb hby at_138) (fun _ _ => ⟨rfl, e27, (by decide : 2 + 4 ≤ _), (by decide : 0 + 16 ≤ _)⟩)
      dsimp only [Pt.U, Pt.locs, Pt.cells, Pt.slots] at X30 l30 y30 z30 st30 hQ30
      first | rw [l30, y30, z30] at X30 | subst l30 y30 z30
      obtain ⟨r1_30, zr_30, vr_30, rfl, N30q, K30, g_r1_30, sz_r1_30, P30_0, P30_1⟩ := hQ30
      have ne31 : b26 ≠ r1_30 := Nat.ne_of_lt (Nat.lt_of_lt_of_le F29.lt sz_r1_30)
      have ne32 : b27 ≠ r1_30 := Nat.ne_of_lt (Nat.lt_of_lt_of_le V_b27.lt sz_r1_30)
      have sz33 : h0.size ≤ r1_30 := Nat.le_trans K27.1 sz_r1_30
      have K34 : Keep h0 T30.heap [] := K27.trans K30 all0
      have N30 := Fr.app N0 N30q
      have pre35 : ∀ t, Steps p.tables e below (T30.setTop (mkF m 141 (Lq0 p1 p2 p3 p4 ucap us0 us1 us2 (kI 0) (kR b26) (kR b27) kU kU kU kU kU) [(.ref r1_30)])) t → Steps p.tables e below (s₁.setTop (entryFrame m #[(.int p1), (.int p2), (.int p3), (.int p4)] maxLocals)) t := fun t k => pre25 t (by
        show Steps _ _ _ (s₁.setTop (mkF m 67 (Lq0 p1 p2 p3 p4 ucap us0 us1 us2 (kI 0) kU kU kU kU kU kU kU) [])) _
        refine XS.iload X0.here hx rfl (hb hby at_67) rfl ?_
        refine st26 _ ?_
        refine XS.astore X26.here hx rfl (hb hby at_71) rfl rfl (l' := (Lq0 p1 p2 p3 p4 ucap us0 us1 us2 (kI 0) (kR b26) kU kU kU kU kU kU)) rfl ?_
        refine XS.iload X26.here hx rfl (hb hby at_73) rfl ?_
        refine st27 _ ?_
        show Steps _ _ _ (T27.setTop (mkF m 77 (Lq0 p1 p2 p3 p4 ucap us0 us1 us2 (kI 0) (kR b26) kU kU kU kU kU kU) [(.ref b27)])) _
        refine XS.astore X27.here hx rfl (hb hby at_77) rfl rfl (l' := (Lq0 p1 p2 p3 p4 ucap us0 us1 us2 (kI 0) (kR b26) (kR b27) kU kU kU kU kU)) rfl ?_
        refine XS.iload X27.here hx rfl (hb hby at_79) rfl ?_
        refine XS.ifYes X27.here hx rfl (pc0 := 81) (pc' := 96) rfl (hb hby at_81) rfl ((if0 _ _).trans (flt (by decide : ¬ ((0 : Int32) < (0 : Int32)))).2.2.2) (by decide) (by decide) ?_
        show Steps _ _ _ (T27.setTop (mkF m 96 (Lq0 p1 p2 p3 p4 ucap us0 us1 us2 (kI 0) (kR b26) (kR b27) kU kU kU kU kU) [])) _
        refine XS.iload X27.here hx rfl (hb hby at_96) rfl ?_
        refine XS.iconst X27.here hx rfl (hb hby at_98) ?_
        refine XS.icmpYes X27.here hx rfl (pc0 := 99) (pc' := 114) rfl (hb hby at_99) rfl (flt (by decide : ¬ ((1 : Int32) < (0 : Int32)))).2.2.2 (by decide) (by decide) ?_
        show Steps _ _ _ (T27.setTop (mkF m 114 (Lq0 p1 p2 p3 p4 ucap us0 us1 us2 (kI 0) (kR b26) (kR b27) kU kU kU kU kU) [])) _
        refine XS.iload X27.here hx rfl (hb hby at_114) rfl ?_
        refine XS.iconst X27.here hx rfl (hb hby at_116) ?_
        refine XS.icmpYes X27.here hx rfl (pc0 := 117) (pc' := 132) rfl (hb hby at_117) rfl (flt (by decide : ¬ ((2 : Int32) < (0 : Int32)))).2.2.2 (by decide) (by decide) ?_
        show Steps _ _ _ (T27.setTop (mkF m 132 (Lq0 p1 p2 p3 p4 ucap us0 us1 us2 (kI 0) (kR b26) (kR b27) kU kU kU kU kU) [])) _
        refine XS.aload X27.here hx rfl (hb hby at_132) rfl rfl ?_
        refine XS.aload X27.here hx rfl (hb hby at_134) rfl rfl ?_
        refine XS.iload X27.here hx rfl (hb hby at_136) rfl ?_
        show Steps _ _ _ (T27.setTop (mkF m 138 (Lq0 p1 p2 p3 p4 ucap us0 us1 us2 (kI 0) (kR b26) (kR b27) kU kU kU kU kU) [(.int ucap), (.ref b27), (.ref b26)])) _
        refine st30 _ ?_
        exact k)
      rcases P30_1 with ⟨hz, hvs, hg⟩
      · have Vr36 : AV Z T30.heap r1_30 .int (0 : Int32) [] := by have q := P30_0; rw [hz, hvs] at q; exact q
        obtain ⟨cl37, A37, S37, Nl37, M37⟩ := id Vr36
        obtain ⟨cl38, A38, S38, Nl38, M38⟩ := id Vr36
        have pre39 : ∀ t, Steps p.tables e below (T30.setTop (mkF m 339 (Lq0 p1 p2 p3 p4 ucap us0 us1 us2 (kI 0) (kR b26) (kR b27) (kR r1_30) (kI 0) (kI 0) (kI (-1)) kU) [])) t → Steps p.tables e below (s₁.setTop (entryFrame m #[(.int p1), (.int p2), (.int p3), (.int p4)] maxLocals)) t := fun t k => pre35 t (by
          show Steps _ _ _ (T30.setTop (mkF m 141 (Lq0 p1 p2 p3 p4 ucap us0 us1 us2 (kI 0) (kR b26) (kR b27) kU kU kU kU kU) [(.ref r1_30)])) _
          refine XS.astore X30.here hx rfl (hb hby at_141) rfl rfl (l' := (Lq0 p1 p2 p3 p4 ucap us0 us1 us2 (kI 0) (kR b26) (kR b27) (kR r1_30) kU kU kU kU)) rfl ?_
          refine XS.aload X30.here hx rfl (hb hby at_143) rfl rfl ?_
          refine XS.ifnullNo X30.here hx rfl (hb hby at_145) rfl ?_
          show Steps _ _ _ (T30.setTop (mkF m 148 (Lq0 p1 p2 p3 p4 ucap us0 us1 us2 (kI 0) (kR b26) (kR b27) (kR r1_30) kU kU kU kU) [])) _
          refine XS.aload X30.here hx rfl (hb hby at_148) rfl rfl ?_
          refine X30.arraylength hx (by exact A37.1) (State.isArrayOf_alike hZ.alike A37.2.1) (g := (mkF m 150 (Lq0 p1 p2 p3 p4 ucap us0 us1 us2 (kI 0) (kR b26) (kR b27) (kR r1_30) kU kU kU kU) [(.ref r1_30)])) rfl rfl (hb hby at_150) _ ?_
          rw [AV.len S37 Nl37 M37]
          refine XS.iload X30.here hx rfl (hb hby at_151) rfl ?_
          refine XS.icmpYes X30.here hx rfl (pc0 := 153) (pc' := 158) rfl (hb hby at_153) rfl (flt (by decide : ¬ ((0 : Int32) < (0 : Int32)))).2.2.2 (by decide) (by decide) ?_
          show Steps _ _ _ (T30.setTop (mkF m 158 (Lq0 p1 p2 p3 p4 ucap us0 us1 us2 (kI 0) (kR b26) (kR b27) (kR r1_30) kU kU kU kU) [])) _
          refine XS.aload X30.here hx rfl (hb hby at_158) rfl rfl ?_
          refine X30.arraylength hx (by exact A38.1) (State.isArrayOf_alike hZ.alike A38.2.1) (g := (mkF m 160 (Lq0 p1 p2 p3 p4 ucap us0 us1 us2 (kI 0) (kR b26) (kR b27) (kR r1_30) kU kU kU kU) [(.ref r1_30)])) rfl rfl (hb hby at_160) _ ?_
          rw [AV.len S38 Nl38 M38]
          refine XS.istore X30.here hx rfl (hb hby at_161) rfl (l' := (Lq0 p1 p2 p3 p4 ucap us0 us1 us2 (kI 0) (kR b26) (kR b27) (kR r1_30) (kI 0) kU kU kU)) rfl ?_
          refine XS.iconst X30.here hx rfl (hb hby at_163) ?_
          show Steps _ _ _ (T30.setTop (mkF m 164 (Lq0 p1 p2 p3 p4 ucap us0 us1 us2 (kI 0) (kR b26) (kR b27) (kR r1_30) (kI 0) kU kU kU) [(.int (0 : Int32))])) _
          refine XS.istore X30.here hx rfl (hb hby at_164) rfl (l' := (Lq0 p1 p2 p3 p4 ucap us0 us1 us2 (kI 0) (kR b26) (kR b27) (kR r1_30) (kI 0) (kI 0) kU kU)) rfl ?_
          refine XS.iconst X30.here hx rfl (hb hby at_166) ?_
          refine XS.istore X30.here hx rfl (hb hby at_167) rfl (l' := (Lq0 p1 p2 p3 p4 ucap us0 us1 us2 (kI 0) (kR b26) (kR b27) (kR r1_30) (kI 0) (kI 0) (kI (-1)) kU)) rfl ?_
          show Steps _ _ _ (T30.setTop (mkF m 169 (Lq0 p1 p2 p3 p4 ucap us0 us1 us2 (kI 0) (kR b26) (kR b27) (kR r1_30) (kI 0) (kI 0) (kI (-1)) kU) [])) _
          refine XS.iload X30.here hx rfl (hb hby at_169) rfl ?_
          refine XS.ifYes X30.here hx rfl (pc0 := 171) (pc' := 209) rfl (hb hby at_171) rfl ((if0 _ _).trans (flt (by decide : ¬ ((0 : Int32) < (0 : Int32)))).2.2.2) (by decide) (by decide) ?_
          refine XS.iload X30.here hx rfl (hb hby at_209) rfl ?_
          show Steps _ _ _ (T30.setTop (mkF m 211 (Lq0 p1 p2 p3 p4 ucap us0 us1 us2 (kI 0) (kR b26) (kR b27) (kR r1_30) (kI 0) (kI 0) (kI (-1)) kU) [(.int (0 : Int32))])) _
          refine XS.iconst X30.here hx rfl (hb hby at_211) ?_
          refine XS.icmpYes X30.here hx rfl (pc0 := 212) (pc' := 250) rfl (hb hby at_212) rfl (flt (by decide : ¬ ((1 : Int32) < (0 : Int32)))).2.2.2 (by decide) (by decide) ?_
          refine XS.iload X30.here hx rfl (hb hby at_250) rfl ?_
          show Steps _ _ _ (T30.setTop (mkF m 252 (Lq0 p1 p2 p3 p4 ucap us0 us1 us2 (kI 0) (kR b26) (kR b27) (kR r1_30) (kI 0) (kI 0) (kI (-1)) kU) [(.int (0 : Int32))])) _
          refine XS.iconst X30.here hx rfl (hb hby at_252) ?_
          refine XS.icmpYes X30.here hx rfl (pc0 := 253) (pc' := 291) rfl (hb hby at_253) rfl (flt (by decide : ¬ ((2 : Int32) < (0 : Int32)))).2.2.2 (by decide) (by decide) ?_
          refine XS.iload X30.here hx rfl (hb hby at_291) rfl ?_
          show Steps _ _ _ (T30.setTop (mkF m 293 (Lq0 p1 p2 p3 p4 ucap us0 us1 us2 (kI 0) (kR b26) (kR b27) (kR r1_30) (kI 0) (kI 0) (kI (-1)) kU) [(.int (0 : Int32))])) _
          refine XS.iconst X30.here hx rfl (hb hby at_293) ?_
          refine XS.iand X30.here hx rfl (hb hby at_294) rfl ?_
          refine XS.ifYes X30.here hx rfl (pc0 := 295) (pc' := 307) rfl (hb hby at_295) rfl ((if0 _ _).trans (teq (rfl : (0 : Int32) = (0 : Int32))).1) (by decide) (by decide) ?_
          show Steps _ _ _ (T30.setTop (mkF m 307 (Lq0 p1 p2 p3 p4 ucap us0 us1 us2 (kI 0) (kR b26) (kR b27) (kR r1_30) (kI 0) (kI 0) (kI (-1)) kU) [])) _
          refine XS.iload X30.here hx rfl (hb hby at_307) rfl ?_
          refine XS.iconst X30.here hx rfl (hb hby at_309) ?_
          refine XS.iand X30.here hx rfl (hb hby at_310) rfl ?_
          show Steps _ _ _ (T30.setTop (mkF m 311 (Lq0 p1 p2 p3 p4 ucap us0 us1 us2 (kI 0) (kR b26) (kR b27) (kR r1_30) (kI 0) (kI 0) (kI (-1)) kU) [(.int (0 : Int32))])) _
          refine XS.ifYes X30.here hx rfl (pc0 := 311) (pc' := 323) rfl (hb hby at_311) rfl ((if0 _ _).trans (teq (rfl : (0 : Int32) = (0 : Int32))).1) (by decide) (by decide) ?_
          refine XS.iload X30.here hx rfl (hb hby at_323) rfl ?_
          refine XS.iconst X30.here hx rfl (hb hby at_325) ?_
          show Steps _ _ _ (T30.setTop (mkF m 326 (Lq0 p1 p2 p3 p4 ucap us0 us1 us2 (kI 0) (kR b26) (kR b27) (kR r1_30) (kI 0) (kI 0) (kI (-1)) kU) [(.int (4 : Int32)), (.int (0 : Int32))])) _
          refine XS.iand X30.here hx rfl (hb hby at_326) rfl ?_
          refine XS.ifYes X30.here hx rfl (pc0 := 327) (pc' := 339) rfl (hb hby at_327) rfl ((if0 _ _).trans (teq (rfl : (0 : Int32) = (0 : Int32))).1) (by decide) (by decide) ?_
          exact k)
        have he40 := own_end_0_0 hcapL hsL0 hsL1 hsL2 (own_vrL p2) (own_vrL p3) (own_vrL p4) hg
        exact jn2 (T30, _, _, (0 : Int32), b26, b27, r1_30, (0 : Int32), (0 : Int32), (-1 : Int32), .unset) ⟨he40.1, he40.2, (Or.inl rfl), (X30.more (by decide) (by decide)), rfl, N30, K34, fun t k => pre39 t k⟩
    · have pre41 : ∀ t, Steps p.tables e below (s₁.setTop (mkF m 67 (Lq0 p1 p2 p3 p4 ucap us0 us1 us2 (kI 1) kU kU kU kU kU kU kU) [])) t → Steps p.tables e below (s₁.setTop (entryFrame m #[(.int p1), (.int p2), (.int p3), (.int p4)] maxLocals)) t := fun t k => preG t (by
        show Steps _ _ _ (s₁.setTop (mkF m 67 (Lq0 p1 p2 p3 p4 ucap us0 us1 us2 (kI un0) kU kU kU kU kU kU kU) [])) _
        rw [hk24]
        exact k)
      obtain ⟨T42, h42, k42, X42, e42, E42, A42, st42⟩ := newP X0 hx hZ (hw _ (List.mem_of_getElem? (i := 0) rfl)) e0 (g := (mkF m 69 (Lq0 p1 p2 p3 p4 ucap us0 us1 us2 (kI 1) kU kU kU kU kU kU kU) [(.int (1 : Int32))])) rfl (hb hby at_69) rfl (by decide) (cap := 1) (by decide) (by decide) (by decide) (by decide)
      obtain ⟨b42, g42⟩ : ∃ z, z = h0.size := ⟨_, rfl⟩
      rw [← g42] at A42 st42
      have g_b42 : n0 ≤ b42 := Nat.le_trans Z0 (Nat.le_of_eq g42.symm)
      have sz_b42 : h0.size ≤ b42 := Nat.le_trans (Keep.refl h0 []).1 (Nat.le_of_eq g42.symm)
      have K42 : Keep h0 h42 [] := (Keep.refl h0 []).ext E42
      have V_b42 : AV Z h42 b42 .int (1 : Int32) [(.int (0 : Int32))] := AV.new A42 (by decide)
      obtain ⟨T43, h43, k43, X43, e43, E43, A43, st43⟩ := newP X42 hx hZ (hw _ (List.mem_of_getElem? (i := 1) rfl)) e42 (g := (mkF m 75 (Lq0 p1 p2 p3 p4 ucap us0 us1 us2 (kI 1) (kR b42) kU kU kU kU kU kU) [(.int (1 : Int32))])) rfl (hb hby at_75) rfl (by decide) (cap := 1) (by decide) (by decide) (by decide) (by decide)
      obtain ⟨b43, g43⟩ : ∃ z, z = h42.size := ⟨_, rfl⟩
      rw [← g43] at A43 st43
      have ne44 : b42 ≠ b43 := Nat.ne_of_lt (Nat.lt_of_lt_of_le V_b42.lt (Nat.le_of_eq g43.symm))
      have g_b43 : n0 ≤ b43 := Nat.le_trans (Nat.le_trans Z0 K42.1) (Nat.le_of_eq g43.symm)
      have sz_b43 : h0.size ≤ b43 := Nat.le_trans K42.1 (Nat.le_of_eq g43.symm)
      have K43 : Keep h0 h43 [] := K42.ext E43
      have V_b43 : AV Z h43 b43 .long (1 : Int32) [(.long (0 : Int64))] := AV.new A43 (by decide)
      have F46 := (V_b42.ext E43)
      obtain ⟨cl45, A45, S45, Nl45, M45⟩ := id F46
      have hin45 : ¬ ((0 : Int32) < 0 ∨ cl45.slots.size ≤ ((0 : Int32)).toNatClampNeg) := AV.inb S45 Nl45 ⟨by decide, by decide⟩
      obtain ⟨T45, h45, X45, e45, W45, st45⟩ := stI X43 hx hZ e43 A45 (j := (0 : Int32)) hin45 (g := (mkF m 89 (Lq0 p1 p2 p3 p4 ucap us0 us1 us2 (kI 1) (kR b42) (kR b43) kU kU kU kU kU) [(.int us0), (.int (0 : Int32)), (.ref b42)])) rfl rfl (hb hby at_89)
      have V45 : AV Z h45 b42 .int (1 : Int32) [(.int us0)] := AV.set A45 S45 Nl45 M45 W45
      have K45 : Keep h0 h45 [] := K43.wr W45 (Or.inr sz_b42)
      have N45 := Fr.snoc X45 N0 g_b42
      have F48 := (V_b43.other W45 (Ne.symm ne44))
      obtain ⟨cl47, A47, S47, Nl47, M47⟩ := id F48
      have hin47 : ¬ ((0 : Int32) < 0 ∨ cl47.slots.size ≤ ((0 : Int32)).toNatClampNeg) := AV.inb S47 Nl47 ⟨by decide, by decide⟩
      obtain ⟨T47, h47, X47, e47, W47, st47⟩ := stJ X45 hx hZ e45 A47 (j := (0 : Int32)) hin47 (g := (mkF m 95 (Lq0 p1 p2 p3 p4 ucap us0 us1 us2 (kI 1) (kR b42) (kR b43) kU kU kU kU kU) [(.long (p2.toInt64)), (.int (0 : Int32)), (.ref b43)])) rfl rfl (hb hby at_95)
      have V47 : AV Z h47 b43 .long (1 : Int32) [(.long (p2.toInt64))] := AV.set A47 S47 Nl47 M47 W47
      have K47 : Keep h0 h47 [] := K45.wr W47 (Or.inr sz_b43)
      have N47 := Fr.snoc X47 N45 g_b43
      have F49 := (V45.other W47 ne44)
      obtain ⟨_, _, ⟨T50, L50, k50, n50⟩, -, X50, ⟨Lc50, hQ50, l50, y50, z50⟩, st50⟩ := Jvm.LawKit.callS X47 hx (y := (⟨"com/example/hindsight/hindsight/solvers/Knapsack", "heaviest", "([I[JI)[I"⟩ : MethodName)) hown (mvT hZ (hw _ (List.mem_of_getElem? (i := 2) rfl))) (mvT hZ (hw _ (List.mem_of_getElem? (i := 3) rfl))) (mvT hZ (hw _ (List.mem_of_getElem? (i := 4) rfl))) (mvT hZ (hw _ (List.mem_of_getElem? (i := 5) rfl))) (by decide) (backOf (W := 0) (rm1n1 l Z a0 hw [] b42 b43 ucap us0 (p2.toInt64) h47 n0 (Nat.le_trans Z0 K47.1) F49 V47 (hcapL) (hsL0) (own_vrL p2)) hZ (hw _ (List.mem_of_getElem? (i := 5) rfl)) (hw _ (List.mem_of_getElem? (i := 4) rfl)) (by decide) (by decide)) (g := (mkF m 138 (Lq0 p1 p2 p3 p4 ucap us0 us1 us2 (kI 1) (kR b42) (kR b43) kU kU kU kU kU) [(.int ucap), (.ref b43), (.ref b42)])) rfl (by rw [hml]; rfl) (argsL := [(.ref b42), (.ref b43), (.int ucap)]) (rest := []) (lenOf pd_4 rfl) rfl (by show 2 * 0 + _ ≤ _; exact Nat.le_of_eq rfl) (hb hby at_138) (fun _ _ => ⟨rfl, e47, (by decide : 2 + 5 ≤ _), (by decide : 2 + 35 ≤ _)⟩)
      dsimp only [Pt.U, Pt.locs, Pt.cells, Pt.slots] at X50 l50 y50 z50 st50 hQ50
      first | rw [l50, y50, z50] at X50 | subst l50 y50 z50
      obtain ⟨r1_50, zr_50, vr_50, rfl, N50q, K50, g_r1_50, sz_r1_50, P50_0, P50_1⟩ := hQ50
      have ne51 : b42 ≠ r1_50 := Nat.ne_of_lt (Nat.lt_of_lt_of_le F49.lt sz_r1_50)
      have ne52 : b43 ≠ r1_50 := Nat.ne_of_lt (Nat.lt_of_lt_of_le V47.lt sz_r1_50)
      have sz53 : h0.size ≤ r1_50 := Nat.le_trans K47.1 sz_r1_50
      have K54 : Keep h0 T50.heap [] := K47.trans K50 all0
      have N50 := Fr.app N47 N50q
      have pre55 : ∀ t, Steps p.tables e below (T50.setTop (mkF m 141 (Lq0 p1 p2 p3 p4 ucap us0 us1 us2 (kI 1) (kR b42) (kR b43) kU kU kU kU kU) [(.ref r1_50)])) t → Steps p.tables e below (s₁.setTop (entryFrame m #[(.int p1), (.int p2), (.int p3), (.int p4)] maxLocals)) t := fun t k => pre41 t (by
        show Steps _ _ _ (s₁.setTop (mkF m 67 (Lq0 p1 p2 p3 p4 ucap us0 us1 us2 (kI 1) kU kU kU kU kU kU kU) [])) _
        refine XS.iload X0.here hx rfl (hb hby at_67) rfl ?_
        refine st42 _ ?_
        refine XS.astore X42.here hx rfl (hb hby at_71) rfl rfl (l' := (Lq0 p1 p2 p3 p4 ucap us0 us1 us2 (kI 1) (kR b42) kU kU kU kU kU kU)) rfl ?_
        refine XS.iload X42.here hx rfl (hb hby at_73) rfl ?_
        refine st43 _ ?_
        show Steps _ _ _ (T43.setTop (mkF m 77 (Lq0 p1 p2 p3 p4 ucap us0 us1 us2 (kI 1) (kR b42) kU kU kU kU kU kU) [(.ref b43)])) _
        refine XS.astore X43.here hx rfl (hb hby at_77) rfl rfl (l' := (Lq0 p1 p2 p3 p4 ucap us0 us1 us2 (kI 1) (kR b42) (kR b43) kU kU kU kU kU)) rfl ?_
        refine XS.iload X43.here hx rfl (hb hby at_79) rfl ?_
        refine XS.ifNo X43.here hx rfl (hb hby at_81) rfl ((if0 _ _).trans (tlt (by decide : (0 : Int32) < (1 : Int32))).2.2.2) ?_
        show Steps _ _ _ (T43.setTop (mkF m 84 (Lq0 p1 p2 p3 p4 ucap us0 us1 us2 (kI 1) (kR b42) (kR b43) kU kU kU kU kU) [])) _
        refine XS.aload X43.here hx rfl (hb hby at_84) rfl rfl ?_
        refine XS.iconst X43.here hx rfl (hb hby at_86) ?_
        refine XS.iload X43.here hx rfl (hb hby at_87) rfl ?_
        refine st45 _ ?_
        show Steps _ _ _ (T45.setTop (mkF m 90 (Lq0 p1 p2 p3 p4 ucap us0 us1 us2 (kI 1) (kR b42) (kR b43) kU kU kU kU kU) [])) _
        refine XS.aload X45.here hx rfl (hb hby at_90) rfl rfl ?_
        refine XS.iconst X45.here hx rfl (hb hby at_92) ?_
        refine XS.lload X45.here hx rfl (hb hby at_93) rfl ?_
        refine st47 _ ?_
        show Steps _ _ _ (T47.setTop (mkF m 96 (Lq0 p1 p2 p3 p4 ucap us0 us1 us2 (kI 1) (kR b42) (kR b43) kU kU kU kU kU) [])) _
        refine XS.iload X47.here hx rfl (hb hby at_96) rfl ?_
        refine XS.iconst X47.here hx rfl (hb hby at_98) ?_
        refine XS.icmpYes X47.here hx rfl (pc0 := 99) (pc' := 114) rfl (hb hby at_99) rfl (flt (by decide : ¬ ((1 : Int32) < (1 : Int32)))).2.2.2 (by decide) (by decide) ?_
        show Steps _ _ _ (T47.setTop (mkF m 114 (Lq0 p1 p2 p3 p4 ucap us0 us1 us2 (kI 1) (kR b42) (kR b43) kU kU kU kU kU) [])) _
        refine XS.iload X47.here hx rfl (hb hby at_114) rfl ?_
        refine XS.iconst X47.here hx rfl (hb hby at_116) ?_
        refine XS.icmpYes X47.here hx rfl (pc0 := 117) (pc' := 132) rfl (hb hby at_117) rfl (flt (by decide : ¬ ((2 : Int32) < (1 : Int32)))).2.2.2 (by decide) (by decide) ?_
        show Steps _ _ _ (T47.setTop (mkF m 132 (Lq0 p1 p2 p3 p4 ucap us0 us1 us2 (kI 1) (kR b42) (kR b43) kU kU kU kU kU) [])) _
        refine XS.aload X47.here hx rfl (hb hby at_132) rfl rfl ?_
        refine XS.aload X47.here hx rfl (hb hby at_134) rfl rfl ?_
        refine XS.iload X47.here hx rfl (hb hby at_136) rfl ?_
        show Steps _ _ _ (T47.setTop (mkF m 138 (Lq0 p1 p2 p3 p4 ucap us0 us1 us2 (kI 1) (kR b42) (kR b43) kU kU kU kU kU) [(.int ucap), (.ref b43), (.ref b42)])) _
        refine st50 _ ?_
        exact k)
      rcases P50_1 with ⟨hz, hvs, hg⟩ | ⟨hz, hvs, hg⟩
      · have Vr56 : AV Z T50.heap r1_50 .int (0 : Int32) [] := by have q := P50_0; rw [hz, hvs] at q; exact q
        obtain ⟨cl57, A57, S57, Nl57, M57⟩ := id Vr56
        obtain ⟨cl58, A58, S58, Nl58, M58⟩ := id Vr56
        have pre59 : ∀ t, Steps p.tables e below (T50.setTop (mkF m 339 (Lq0 p1 p2 p3 p4 ucap us0 us1 us2 (kI 1) (kR b42) (kR b43) (kR r1_50) (kI 0) (kI 0) (kI (-1)) kU) [])) t → Steps p.tables e below (s₁.setTop (entryFrame m #[(.int p1), (.int p2), (.int p3), (.int p4)] maxLocals)) t := fun t k => pre55 t (by
          show Steps _ _ _ (T50.setTop (mkF m 141 (Lq0 p1 p2 p3 p4 ucap us0 us1 us2 (kI 1) (kR b42) (kR b43) kU kU kU kU kU) [(.ref r1_50)])) _
          refine XS.astore X50.here hx rfl (hb hby at_141) rfl rfl (l' := (Lq0 p1 p2 p3 p4 ucap us0 us1 us2 (kI 1) (kR b42) (kR b43) (kR r1_50) kU kU kU kU)) rfl ?_
          refine XS.aload X50.here hx rfl (hb hby at_143) rfl rfl ?_
          refine XS.ifnullNo X50.here hx rfl (hb hby at_145) rfl ?_
          show Steps _ _ _ (T50.setTop (mkF m 148 (Lq0 p1 p2 p3 p4 ucap us0 us1 us2 (kI 1) (kR b42) (kR b43) (kR r1_50) kU kU kU kU) [])) _
          refine XS.aload X50.here hx rfl (hb hby at_148) rfl rfl ?_
          refine X50.arraylength hx (by exact A57.1) (State.isArrayOf_alike hZ.alike A57.2.1) (g := (mkF m 150 (Lq0 p1 p2 p3 p4 ucap us0 us1 us2 (kI 1) (kR b42) (kR b43) (kR r1_50) kU kU kU kU) [(.ref r1_50)])) rfl rfl (hb hby at_150) _ ?_
          rw [AV.len S57 Nl57 M57]
          refine XS.iload X50.here hx rfl (hb hby at_151) rfl ?_
          refine XS.icmpYes X50.here hx rfl (pc0 := 153) (pc' := 158) rfl (hb hby at_153) rfl (flt (by decide : ¬ ((1 : Int32) < (0 : Int32)))).2.2.2 (by decide) (by decide) ?_
          show Steps _ _ _ (T50.setTop (mkF m 158 (Lq0 p1 p2 p3 p4 ucap us0 us1 us2 (kI 1) (kR b42) (kR b43) (kR r1_50) kU kU kU kU) [])) _
          refine XS.aload X50.here hx rfl (hb hby at_158) rfl rfl ?_
          refine X50.arraylength hx (by exact A58.1) (State.isArrayOf_alike hZ.alike A58.2.1) (g := (mkF m 160 (Lq0 p1 p2 p3 p4 ucap us0 us1 us2 (kI 1) (kR b42) (kR b43) (kR r1_50) kU kU kU kU) [(.ref r1_50)])) rfl rfl (hb hby at_160) _ ?_
          rw [AV.len S58 Nl58 M58]
          refine XS.istore X50.here hx rfl (hb hby at_161) rfl (l' := (Lq0 p1 p2 p3 p4 ucap us0 us1 us2 (kI 1) (kR b42) (kR b43) (kR r1_50) (kI 0) kU kU kU)) rfl ?_
          refine XS.iconst X50.here hx rfl (hb hby at_163) ?_
          show Steps _ _ _ (T50.setTop (mkF m 164 (Lq0 p1 p2 p3 p4 ucap us0 us1 us2 (kI 1) (kR b42) (kR b43) (kR r1_50) (kI 0) kU kU kU) [(.int (0 : Int32))])) _
          refine XS.istore X50.here hx rfl (hb hby at_164) rfl (l' := (Lq0 p1 p2 p3 p4 ucap us0 us1 us2 (kI 1) (kR b42) (kR b43) (kR r1_50) (kI 0) (kI 0) kU kU)) rfl ?_
          refine XS.iconst X50.here hx rfl (hb hby at_166) ?_
          refine XS.istore X50.here hx rfl (hb hby at_167) rfl (l' := (Lq0 p1 p2 p3 p4 ucap us0 us1 us2 (kI 1) (kR b42) (kR b43) (kR r1_50) (kI 0) (kI 0) (kI (-1)) kU)) rfl ?_
          show Steps _ _ _ (T50.setTop (mkF m 169 (Lq0 p1 p2 p3 p4 ucap us0 us1 us2 (kI 1) (kR b42) (kR b43) (kR r1_50) (kI 0) (kI 0) (kI (-1)) kU) [])) _
          refine XS.iload X50.here hx rfl (hb hby at_169) rfl ?_
          refine XS.ifYes X50.here hx rfl (pc0 := 171) (pc' := 209) rfl (hb hby at_171) rfl ((if0 _ _).trans (flt (by decide : ¬ ((0 : Int32) < (0 : Int32)))).2.2.2) (by decide) (by decide) ?_
          refine XS.iload X50.here hx rfl (hb hby at_209) rfl ?_
          show Steps _ _ _ (T50.setTop (mkF m 211 (Lq0 p1 p2 p3 p4 ucap us0 us1 us2 (kI 1) (kR b42) (kR b43) (kR r1_50) (kI 0) (kI 0) (kI (-1)) kU) [(.int (0 : Int32))])) _
          refine XS.iconst X50.here hx rfl (hb hby at_211) ?_
          refine XS.icmpYes X50.here hx rfl (pc0 := 212) (pc' := 250) rfl (hb hby at_212) rfl (flt (by decide : ¬ ((1 : Int32) < (0 : Int32)))).2.2.2 (by decide) (by decide) ?_
          refine XS.iload X50.here hx rfl (hb hby at_250) rfl ?_
          show Steps _ _ _ (T50.setTop (mkF m 252 (Lq0 p1 p2 p3 p4 ucap us0 us1 us2 (kI 1) (kR b42) (kR b43) (kR r1_50) (kI 0) (kI 0) (kI (-1)) kU) [(.int (0 : Int32))])) _
          refine XS.iconst X50.here hx rfl (hb hby at_252) ?_
          refine XS.icmpYes X50.here hx rfl (pc0 := 253) (pc' := 291) rfl (hb hby at_253) rfl (flt (by decide : ¬ ((2 : Int32) < (0 : Int32)))).2.2.2 (by decide) (by decide) ?_
          refine XS.iload X50.here hx rfl (hb hby at_291) rfl ?_
          show Steps _ _ _ (T50.setTop (mkF m 293 (Lq0 p1 p2 p3 p4 ucap us0 us1 us2 (kI 1) (kR b42) (kR b43) (kR r1_50) (kI 0) (kI 0) (kI (-1)) kU) [(.int (0 : Int32))])) _
          refine XS.iconst X50.here hx rfl (hb hby at_293) ?_
          refine XS.iand X50.here hx rfl (hb hby at_294) rfl ?_
          refine XS.ifYes X50.here hx rfl (pc0 := 295) (pc' := 307) rfl (hb hby at_295) rfl ((if0 _ _).trans (teq (rfl : (0 : Int32) = (0 : Int32))).1) (by decide) (by decide) ?_
          show Steps _ _ _ (T50.setTop (mkF m 307 (Lq0 p1 p2 p3 p4 ucap us0 us1 us2 (kI 1) (kR b42) (kR b43) (kR r1_50) (kI 0) (kI 0) (kI (-1)) kU) [])) _
          refine XS.iload X50.here hx rfl (hb hby at_307) rfl ?_
          refine XS.iconst X50.here hx rfl (hb hby at_309) ?_
          refine XS.iand X50.here hx rfl (hb hby at_310) rfl ?_
          show Steps _ _ _ (T50.setTop (mkF m 311 (Lq0 p1 p2 p3 p4 ucap us0 us1 us2 (kI 1) (kR b42) (kR b43) (kR r1_50) (kI 0) (kI 0) (kI (-1)) kU) [(.int (0 : Int32))])) _
          refine XS.ifYes X50.here hx rfl (pc0 := 311) (pc' := 323) rfl (hb hby at_311) rfl ((if0 _ _).trans (teq (rfl : (0 : Int32) = (0 : Int32))).1) (by decide) (by decide) ?_
          refine XS.iload X50.here hx rfl (hb hby at_323) rfl ?_
          refine XS.iconst X50.here hx rfl (hb hby at_325) ?_
          show Steps _ _ _ (T50.setTop (mkF m 326 (Lq0 p1 p2 p3 p4 ucap us0 us1 us2 (kI 1) (kR b42) (kR b43) (kR r1_50) (kI 0) (kI 0) (kI (-1)) kU) [(.int (4 : Int32)), (.int (0 : Int32))])) _
          refine XS.iand X50.here hx rfl (hb hby at_326) rfl ?_
          refine XS.ifYes X50.here hx rfl (pc0 := 327) (pc' := 339) rfl (hb hby at_327) rfl ((if0 _ _).trans (teq (rfl : (0 : Int32) = (0 : Int32))).1) (by decide) (by decide) ?_
          exact k)
        have he60 := own_end_1_0 hcapL hsL0 hsL1 hsL2 (own_vrL p2) (own_vrL p3) (own_vrL p4) hg
        exact jn2 (T50, _, _, (1 : Int32), b42, b43, r1_50, (0 : Int32), (0 : Int32), (-1 : Int32), .unset) ⟨he60.1, he60.2, (Or.inl rfl), (X50.more (by decide) (by decide)), rfl, N50, K54, fun t k => pre59 t k⟩
      · have Vr61 : AV Z T50.heap r1_50 .int (1 : Int32) [(.int (0 : Int32))] := by have q := P50_0; rw [hz, hvs] at q; exact q
        obtain ⟨cl62, A62, S62, Nl62, M62⟩ := id Vr61
        obtain ⟨cl63, A63, S63, Nl63, M63⟩ := id Vr61
        obtain ⟨cl64, A64, S64, Nl64, M64⟩ := id Vr61
        have hin64 : ¬ ((0 : Int32) < 0 ∨ cl64.slots.size ≤ ((0 : Int32)).toNatClampNeg) := AV.inb S64 Nl64 ⟨by decide, by decide⟩
        have hat64 : cl64.slots[((0 : Int32)).toNatClampNeg]? = some (.int (0 : Int32)) := AV.at S64 rfl
        have hc65 : (0 : Int32) < (lcmpW (p2.toInt64) (0 : Int64)) := by exact own_gt.mpr (Int64.lt_iff_toInt_lt.mpr (hg.1 rfl))
        have pre66 : ∀ t, Steps p.tables e below (T50.setTop (mkF m 339 (Lq0 p1 p2 p3 p4 ucap us0 us1 us2 (kI 1) (kR b42) (kR b43) (kR r1_50) (kI 1) (kI 1) (kI 0) (kI 0)) [])) t → Steps p.tables e below (s₁.setTop (entryFrame m #[(.int p1), (.int p2), (.int p3), (.int p4)] maxLocals)) t := fun t k => pre55 t (by
          show Steps _ _ _ (T50.setTop (mkF m 141 (Lq0 p1 p2 p3 p4 ucap us0 us1 us2 (kI 1) (kR b42) (kR b43) kU kU kU kU kU) [(.ref r1_50)])) _
          refine XS.astore X50.here hx rfl (hb hby at_141) rfl rfl (l' := (Lq0 p1 p2 p3 p4 ucap us0 us1 us2 (kI 1) (kR b42) (kR b43) (kR r1_50) kU kU kU kU)) rfl ?_
          show Steps _ _ _ (T50.setTop (mkF m 143 (Lq0 p1 p2 p3 p4 ucap us0 us1 us2 (kI 1) (kR b42) (kR b43) (kR r1_50) kU kU kU kU) [])) _
          refine XS.aload X50.here hx rfl (hb hby at_143) rfl rfl ?_
          refine XS.ifnullNo X50.here hx rfl (hb hby at_145) rfl ?_
          refine XS.aload X50.here hx rfl (hb hby at_148) rfl rfl ?_
          refine X50.arraylength hx (by exact A62.1) (State.isArrayOf_alike hZ.alike A62.2.1) (g := (mkF m 150 (Lq0 p1 p2 p3 p4 ucap us0 us1 us2 (kI 1) (kR b42) (kR b43) (kR r1_50) kU kU kU kU) [(.ref r1_50)])) rfl rfl (hb hby at_150) _ ?_
          rw [AV.len S62 Nl62 M62]
          show Steps _ _ _ (T50.setTop (mkF m 151 (Lq0 p1 p2 p3 p4 ucap us0 us1 us2 (kI 1) (kR b42) (kR b43) (kR r1_50) kU kU kU kU) [(.int (1 : Int32))])) _
          refine XS.iload X50.here hx rfl (hb hby at_151) rfl ?_
          refine XS.icmpYes X50.here hx rfl (pc0 := 153) (pc' := 158) rfl (hb hby at_153) rfl (flt (by decide : ¬ ((1 : Int32) < (1 : Int32)))).2.2.2 (by decide) (by decide) ?_
          refine XS.aload X50.here hx rfl (hb hby at_158) rfl rfl ?_
          refine X50.arraylength hx (by exact A63.1) (State.isArrayOf_alike hZ.alike A63.2.1) (g := (mkF m 160 (Lq0 p1 p2 p3 p4 ucap us0 us1 us2 (kI 1) (kR b42) (kR b43) (kR r1_50) kU kU kU kU) [(.ref r1_50)])) rfl rfl (hb hby at_160) _ ?_
          rw [AV.len S63 Nl63 M63]
          show Steps _ _ _ (T50.setTop (mkF m 161 (Lq0 p1 p2 p3 p4 ucap us0 us1 us2 (kI 1) (kR b42) (kR b43) (kR r1_50) kU kU kU kU) [(.int (1 : Int32))])) _
          refine XS.istore X50.here hx rfl (hb hby at_161) rfl (l' := (Lq0 p1 p2 p3 p4 ucap us0 us1 us2 (kI 1) (kR b42) (kR b43) (kR r1_50) (kI 1) kU kU kU)) rfl ?_
          refine XS.iconst X50.here hx rfl (hb hby at_163) ?_
          refine XS.istore X50.here hx rfl (hb hby at_164) rfl (l' := (Lq0 p1 p2 p3 p4 ucap us0 us1 us2 (kI 1) (kR b42) (kR b43) (kR r1_50) (kI 1) (kI 0) kU kU)) rfl ?_
          show Steps _ _ _ (T50.setTop (mkF m 166 (Lq0 p1 p2 p3 p4 ucap us0 us1 us2 (kI 1) (kR b42) (kR b43) (kR r1_50) (kI 1) (kI 0) kU kU) [])) _
          refine XS.iconst X50.here hx rfl (hb hby at_166) ?_
          refine XS.istore X50.here hx rfl (hb hby at_167) rfl (l' := (Lq0 p1 p2 p3 p4 ucap us0 us1 us2 (kI 1) (kR b42) (kR b43) (kR r1_50) (kI 1) (kI 0) (kI (-1)) kU)) rfl ?_
          refine XS.iload X50.here hx rfl (hb hby at_169) rfl ?_
          show Steps _ _ _ (T50.setTop (mkF m 171 (Lq0 p1 p2 p3 p4 ucap us0 us1 us2 (kI 1) (kR b42) (kR b43) (kR r1_50) (kI 1) (kI 0) (kI (-1)) kU) [(.int (1 : Int32))])) _
          refine XS.ifNo X50.here hx rfl (hb hby at_171) rfl ((if0 _ _).trans (tlt (by decide : (0 : Int32) < (1 : Int32))).2.2.2) ?_
          refine XS.aload X50.here hx rfl (hb hby at_174) rfl rfl ?_
          refine XS.iconst X50.here hx rfl (hb hby at_176) ?_
          refine X50.iaload hx (j := (0 : Int32)) (v := (.int (0 : Int32))) (by exact A64.1) (State.isArrayOf_alike hZ.alike A64.2.1) A64.2.2 hin64 hat64 (g := (mkF m 177 (Lq0 p1 p2 p3 p4 ucap us0 us1 us2 (kI 1) (kR b42) (kR b43) (kR r1_50) (kI 1) (kI 0) (kI (-1)) kU) [(.int (0 : Int32)), (.ref r1_50)])) rfl rfl (hb hby at_177) _ ?_
          show Steps _ _ _ (T50.setTop (mkF m 178 (Lq0 p1 p2 p3 p4 ucap us0 us1 us2 (kI 1) (kR b42) (kR b43) (kR r1_50) (kI 1) (kI 0) (kI (-1)) kU) [(.int (0 : Int32))])) _
          refine XS.istore X50.here hx rfl (hb hby at_178) rfl (l' := (Lq0 p1 p2 p3 p4 ucap us0 us1 us2 (kI 1) (kR b42) (kR b43) (kR r1_50) (kI 1) (kI 0) (kI (-1)) (kI 0))) rfl ?_
          refine XS.iload X50.here hx rfl (hb hby at_180) rfl ?_
          refine XS.iload X50.here hx rfl (hb hby at_182) rfl ?_
          show Steps _ _ _ (T50.setTop (mkF m 184 (Lq0 p1 p2 p3 p4 ucap us0 us1 us2 (kI 1) (kR b42) (kR b43) (kR r1_50) (kI 1) (kI 0) (kI (-1)) (kI 0)) [(.int (-1 : Int32)), (.int (0 : Int32))])) _
          refine XS.icmpNo X50.here hx rfl (hb hby at_184) rfl (tlt (by decide : (-1 : Int32) < (0 : Int32))).2.2.2 ?_
          refine XS.iload X50.here hx rfl (hb hby at_187) rfl ?_
          refine XS.iload X50.here hx rfl (hb hby at_189) rfl ?_
          show Steps _ _ _ (T50.setTop (mkF m 191 (Lq0 p1 p2 p3 p4 ucap us0 us1 us2 (kI 1) (kR b42) (kR b43) (kR r1_50) (kI 1) (kI 0) (kI (-1)) (kI 0)) [(.int (1 : Int32)), (.int (0 : Int32))])) _
          refine XS.icmpYes X50.here hx rfl (pc0 := 191) (pc' := 196) rfl (hb hby at_191) rfl (tlt (by decide : (0 : Int32) < (1 : Int32))).1 (by decide) (by decide) ?_
          refine XS.iload X50.here hx rfl (hb hby at_196) rfl ?_
          refine XS.iconst X50.here hx rfl (hb hby at_198) ?_
          show Steps _ _ _ (T50.setTop (mkF m 199 (Lq0 p1 p2 p3 p4 ucap us0 us1 us2 (kI 1) (kR b42) (kR b43) (kR r1_50) (kI 1) (kI 0) (kI (-1)) (kI 0)) [(.int (1 : Int32)), (.int (0 : Int32))])) _
          refine XS.iload X50.here hx rfl (hb hby at_199) rfl ?_
          refine XS.ishl X50.here hx rfl (hb hby at_201) rfl ?_
          refine XS.ior X50.here hx rfl (hb hby at_202) rfl ?_
          show Steps _ _ _ (T50.setTop (mkF m 203 (Lq0 p1 p2 p3 p4 ucap us0 us1 us2 (kI 1) (kR b42) (kR b43) (kR r1_50) (kI 1) (kI 0) (kI (-1)) (kI 0)) [(.int (1 : Int32))])) _
          refine XS.istore X50.here hx rfl (hb hby at_203) rfl (l' := (Lq0 p1 p2 p3 p4 ucap us0 us1 us2 (kI 1) (kR b42) (kR b43) (kR r1_50) (kI 1) (kI 1) (kI (-1)) (kI 0))) rfl ?_
          refine XS.iload X50.here hx rfl (hb hby at_205) rfl ?_
          refine XS.istore X50.here hx rfl (hb hby at_207) rfl (l' := (Lq0 p1 p2 p3 p4 ucap us0 us1 us2 (kI 1) (kR b42) (kR b43) (kR r1_50) (kI 1) (kI 1) (kI 0) (kI 0))) rfl ?_
          show Steps _ _ _ (T50.setTop (mkF m 209 (Lq0 p1 p2 p3 p4 ucap us0 us1 us2 (kI 1) (kR b42) (kR b43) (kR r1_50) (kI 1) (kI 1) (kI 0) (kI 0)) [])) _
          refine XS.iload X50.here hx rfl (hb hby at_209) rfl ?_
          refine XS.iconst X50.here hx rfl (hb hby at_211) ?_
          refine XS.icmpYes X50.here hx rfl (pc0 := 212) (pc' := 250) rfl (hb hby at_212) rfl (flt (by decide : ¬ ((1 : Int32) < (1 : Int32)))).2.2.2 (by decide) (by decide) ?_
          show Steps _ _ _ (T50.setTop (mkF m 250 (Lq0 p1 p2 p3 p4 ucap us0 us1 us2 (kI 1) (kR b42) (kR b43) (kR r1_50) (kI 1) (kI 1) (kI 0) (kI 0)) [])) _
          refine XS.iload X50.here hx rfl (hb hby at_250) rfl ?_
          refine XS.iconst X50.here hx rfl (hb hby at_252) ?_
          refine XS.icmpYes X50.here hx rfl (pc0 := 253) (pc' := 291) rfl (hb hby at_253) rfl (flt (by decide : ¬ ((2 : Int32) < (1 : Int32)))).2.2.2 (by decide) (by decide) ?_
          show Steps _ _ _ (T50.setTop (mkF m 291 (Lq0 p1 p2 p3 p4 ucap us0 us1 us2 (kI 1) (kR b42) (kR b43) (kR r1_50) (kI 1) (kI 1) (kI 0) (kI 0)) [])) _
          refine XS.iload X50.here hx rfl (hb hby at_291) rfl ?_
          refine XS.iconst X50.here hx rfl (hb hby at_293) ?_
          refine XS.iand X50.here hx rfl (hb hby at_294) rfl ?_
          show Steps _ _ _ (T50.setTop (mkF m 295 (Lq0 p1 p2 p3 p4 ucap us0 us1 us2 (kI 1) (kR b42) (kR b43) (kR r1_50) (kI 1) (kI 1) (kI 0) (kI 0)) [(.int (1 : Int32))])) _
          refine XS.ifNo X50.here hx rfl (hb hby at_295) rfl ((if0 _ _).trans (feq (by decide : ¬ ((1 : Int32) = (0 : Int32)))).1) ?_
          refine XS.lload X50.here hx rfl (hb hby at_298) rfl ?_
          refine XS.lconst X50.here hx rfl (hb hby at_300) ?_
          show Steps _ _ _ (T50.setTop (mkF m 301 (Lq0 p1 p2 p3 p4 ucap us0 us1 us2 (kI 1) (kR b42) (kR b43) (kR r1_50) (kI 1) (kI 1) (kI 0) (kI 0)) [(.long (0 : Int64)), (.long (p2.toInt64))])) _
          refine XS.lcmp X50.here hx rfl (hb hby at_301) rfl ?_
          refine XS.ifYes X50.here hx rfl (pc0 := 302) (pc' := 307) rfl (hb hby at_302) rfl ((if0 _ _).trans (tlt hc65).2.2.1) (by decide) (by decide) ?_
          refine XS.iload X50.here hx rfl (hb hby at_307) rfl ?_
          show Steps _ _ _ (T50.setTop (mkF m 309 (Lq0 p1 p2 p3 p4 ucap us0 us1 us2 (kI 1) (kR b42) (kR b43) (kR r1_50) (kI 1) (kI 1) (kI 0) (kI 0)) [(.int (1 : Int32))])) _
          refine XS.iconst X50.here hx rfl (hb hby at_309) ?_
          refine XS.iand X50.here hx rfl (hb hby at_310) rfl ?_
          refine XS.ifYes X50.here hx rfl (pc0 := 311) (pc' := 323) rfl (hb hby at_311) rfl ((if0 _ _).trans (teq (rfl : (0 : Int32) = (0 : Int32))).1) (by decide) (by decide) ?_
          show Steps _ _ _ (T50.setTop (mkF m 323 (Lq0 p1 p2 p3 p4 ucap us0 us1 us2 (kI 1) (kR b42) (kR b43) (kR r1_50) (kI 1) (kI 1) (kI 0) (kI 0)) [])) _
          refine XS.iload X50.here hx rfl (hb hby at_323) rfl ?_
          refine XS.iconst X50.here hx rfl (hb hby at_325) ?_
          refine XS.iand X50.here hx rfl (hb hby at_326) rfl ?_
          show Steps _ _ _ (T50.setTop (mkF m 327 (Lq0 p1 p2 p3 p4 ucap us0 us1 us2 (kI 1) (kR b42) (kR b43) (kR r1_50) (kI 1) (kI 1) (kI 0) (kI 0)) [(.int (0 : Int32))])) _
          refine XS.ifYes X50.here hx rfl (pc0 := 327) (pc' := 339) rfl (hb hby at_327) rfl ((if0 _ _).trans (teq (rfl : (0 : Int32) = (0 : Int32))).1) (by decide) (by decide) ?_
          exact k)
        have he67 := own_end_1_1 hcapL hsL0 hsL1 hsL2 (own_vrL p2) (own_vrL p3) (own_vrL p4) hg
        exact jn2 (T50, _, _, (1 : Int32), b42, b43, r1_50, (1 : Int32), (1 : Int32), (0 : Int32), .val (.int (0 : Int32))) ⟨he67.1, he67.2, (Or.inr (Or.inl ⟨_, rfl⟩)), (X50.more (by decide) (by decide)), rfl, N50, K54, fun t k => pre66 t k⟩
    · have pre68 : ∀ t, Steps p.tables e below (s₁.setTop (mkF m 67 (Lq0 p1 p2 p3 p4 ucap us0 us1 us2 (kI 2) kU kU kU kU kU kU kU) [])) t → Steps p.tables e below (s₁.setTop (entryFrame m #[(.int p1), (.int p2), (.int p3), (.int p4)] maxLocals)) t := fun t k => preG t (by
        show Steps _ _ _ (s₁.setTop (mkF m 67 (Lq0 p1 p2 p3 p4 ucap us0 us1 us2 (kI un0) kU kU kU kU kU kU kU) [])) _
        rw [hk24]
        exact k)
      obtain ⟨T69, h69, k69, X69, e69, E69, A69, st69⟩ := newP X0 hx hZ (hw _ (List.mem_of_getElem? (i := 0) rfl)) e0 (g := (mkF m 69 (Lq0 p1 p2 p3 p4 ucap us0 us1 us2 (kI 2) kU kU kU kU kU kU kU) [(.int (2 : Int32))])) rfl (hb hby at_69) rfl (by decide) (cap := 2) (by decide) (by decide) (by decide) (by decide)
      obtain ⟨b69, g69⟩ : ∃ z, z = h0.size := ⟨_, rfl⟩
      rw [← g69] at A69 st69
      have g_b69 : n0 ≤ b69 := Nat.le_trans Z0 (Nat.le_of_eq g69.symm)
      have sz_b69 : h0.size ≤ b69 := Nat.le_trans (Keep.refl h0 []).1 (Nat.le_of_eq g69.symm)
      have K69 : Keep h0 h69 [] := (Keep.refl h0 []).ext E69
      have V_b69 : AV Z h69 b69 .int (2 : Int32) [(.int (0 : Int32)), (.int (0 : Int32))] := AV.new A69 (by decide)
      obtain ⟨T70, h70, k70, X70, e70, E70, A70, st70⟩ := newP X69 hx hZ (hw _ (List.mem_of_getElem? (i := 1) rfl)) e69 (g := (mkF m 75 (Lq0 p1 p2 p3 p4 ucap us0 us1 us2 (kI 2) (kR b69) kU kU kU kU kU kU) [(.int (2 : Int32))])) rfl (hb hby at_75) rfl (by decide) (cap := 2) (by decide) (by decide) (by decide) (by decide)
      obtain ⟨b70, g70⟩ : ∃ z, z = h69.size := ⟨_, rfl⟩
      rw [← g70] at A70 st70
      have ne71 : b69 ≠ b70 := Nat.ne_of_lt (Nat.lt_of_lt_of_le V_b69.lt (Nat.le_of_eq g70.symm))
      have g_b70 : n0 ≤ b70 := Nat.le_trans (Nat.le_trans Z0 K69.1) (Nat.le_of_eq g70.symm)
      have sz_b70 : h0.size ≤ b70 := Nat.le_trans K69.1 (Nat.le_of_eq g70.symm)
      have K70 : Keep h0 h70 [] := K69.ext E70
      have V_b70 : AV Z h70 b70 .long (2 : Int32) [(.long (0 : Int64)), (.long (0 : Int64))] := AV.new A70 (by decide)
      have F73 := (V_b69.ext E70)
      obtain ⟨cl72, A72, S72, Nl72, M72⟩ := id F73
      have hin72 : ¬ ((0 : Int32) < 0 ∨ cl72.slots.size ≤ ((0 : Int32)).toNatClampNeg) := AV.inb S72 Nl72 ⟨by decide, by decide⟩
      obtain ⟨T72, h72, X72, e72, W72, st72⟩ := stI X70 hx hZ e70 A72 (j := (0 : Int32)) hin72 (g := (mkF m 89 (Lq0 p1 p2 p3 p4 ucap us0 us1 us2 (kI 2) (kR b69) (kR b70) kU kU kU kU kU) [(.int us0), (.int (0 : Int32)), (.ref b69)])) rfl rfl (hb hby at_89)
      have V72 : AV Z h72 b69 .int (2 : Int32) [(.int us0), (.int (0 : Int32))] := AV.set A72 S72 Nl72 M72 W72
      have K72 : Keep h0 h72 [] := K70.wr W72 (Or.inr sz_b69)
      have N72 := Fr.snoc X72 N0 g_b69
      have F75 := (V_b70.other W72 (Ne.symm ne71))
      obtain ⟨cl74, A74, S74, Nl74, M74⟩ := id F75
      have hin74 : ¬ ((0 : Int32) < 0 ∨ cl74.slots.size ≤ ((0 : Int32)).toNatClampNeg) := AV.inb S74 Nl74 ⟨by decide, by decide⟩
      obtain ⟨T74, h74, X74, e74, W74, st74⟩ := stJ X72 hx hZ e72 A74 (j := (0 : Int32)) hin74 (g := (mkF m 95 (Lq0 p1 p2 p3 p4 ucap us0 us1 us2 (kI 2) (kR b69) (kR b70) kU kU kU kU kU) [(.long (p2.toInt64)), (.int (0 : Int32)), (.ref b70)])) rfl rfl (hb hby at_95)
      have V74 : AV Z h74 b70 .long (2 : Int32) [(.long (p2.toInt64)), (.long (0 : Int64))] := AV.set A74 S74 Nl74 M74 W74
      have K74 : Keep h0 h74 [] := K72.wr W74 (Or.inr sz_b70)
      have N74 := Fr.snoc X74 N72 g_b70
      have F77 := (V72.other W74 ne71)
      obtain ⟨cl76, A76, S76, Nl76, M76⟩ := id F77
      have hin76 : ¬ ((1 : Int32) < 0 ∨ cl76.slots.size ≤ ((1 : Int32)).toNatClampNeg) := AV.inb S76 Nl76 ⟨by decide, by decide⟩
      obtain ⟨T76, h76, X76, e76, W76, st76⟩ := stI X74 hx hZ e74 A76 (j := (1 : Int32)) hin76 (g := (mkF m 107 (Lq0 p1 p2 p3 p4 ucap us0 us1 us2 (kI 2) (kR b69) (kR b70) kU kU kU kU kU) [(.int us1), (.int (1 : Int32)), (.ref b69)])) rfl rfl (hb hby at_107)
      have V76 : AV Z h76 b69 .int (2 : Int32) [(.int us0), (.int us1)] := AV.set A76 S76 Nl76 M76 W76
      have K76 : Keep h0 h76 [] := K74.wr W76 (Or.inr sz_b69)
      have N76 := Fr.snoc X76 N74 g_b69
      have F79 := (V74.other W76 (Ne.symm ne71))
      obtain ⟨cl78, A78, S78, Nl78, M78⟩ := id F79
      have hin78 : ¬ ((1 : Int32) < 0 ∨ cl78.slots.size ≤ ((1 : Int32)).toNatClampNeg) := AV.inb S78 Nl78 ⟨by decide, by decide⟩
      obtain ⟨T78, h78, X78, e78, W78, st78⟩ := stJ X76 hx hZ e76 A78 (j := (1 : Int32)) hin78 (g := (mkF m 113 (Lq0 p1 p2 p3 p4 ucap us0 us1 us2 (kI 2) (kR b69) (kR b70) kU kU kU kU kU) [(.long (p3.toInt64)), (.int (1 : Int32)), (.ref b70)])) rfl rfl (hb hby at_113)
      have V78 : AV Z h78 b70 .long (2 : Int32) [(.long (p2.toInt64)), (.long (p3.toInt64))] := AV.set A78 S78 Nl78 M78 W78
      have K78 : Keep h0 h78 [] := K76.wr W78 (Or.inr sz_b70)
      have N78 := Fr.snoc X78 N76 g_b70
      have F80 := (V76.other W78 ne71)
      obtain ⟨_, _, ⟨T81, L81, k81, n81⟩, -, X81, ⟨Lc81, hQ81, l81, y81, z81⟩, st81⟩ := Jvm.LawKit.callS X78 hx (y := (⟨"com/example/hindsight/hindsight/solvers/Knapsack", "heaviest", "([I[JI)[I"⟩ : MethodName)) hown (mvT hZ (hw _ (List.mem_of_getElem? (i := 2) rfl))) (mvT hZ (hw _ (List.mem_of_getElem? (i := 3) rfl))) (mvT hZ (hw _ (List.mem_of_getElem? (i := 4) rfl))) (mvT hZ (hw _ (List.mem_of_getElem? (i := 5) rfl))) (by decide) (backOf (W := 0) (rm1n2 l Z a0 hw [] b69 b70 ucap us0 us1 (p2.toInt64) (p3.toInt64) h78 n0 (Nat.le_trans Z0 K78.1) F80 V78 (hcapL) (hsL0) (hsL1) (own_vrL p2) (own_vrL p3)) hZ (hw _ (List.mem_of_getElem? (i := 5) rfl)) (hw _ (List.mem_of_getElem? (i := 4) rfl)) (by decide) (by decide)) (g := (mkF m 138 (Lq0 p1 p2 p3 p4 ucap us0 us1 us2 (kI 2) (kR b69) (kR b70) kU kU kU kU kU) [(.int ucap), (.ref b70), (.ref b69)])) rfl (by rw [hml]; rfl) (argsL := [(.ref b69), (.ref b70), (.int ucap)]) (rest := []) (lenOf pd_4 rfl) rfl (by show 2 * 0 + _ ≤ _; exact Nat.le_of_eq rfl) (hb hby at_138) (fun _ _ => ⟨rfl, e78, (by decide : 2 + 6 ≤ _), (by decide : 4 + 54 ≤ _)⟩)
      dsimp only [Pt.U, Pt.locs, Pt.cells, Pt.slots] at X81 l81 y81 z81 st81 hQ81
      first | rw [l81, y81, z81] at X81 | subst l81 y81 z81
      obtain ⟨r1_81, zr_81, vr_81, rfl, N81q, K81, g_r1_81, sz_r1_81, P81_0, P81_1⟩ := hQ81
      have ne82 : b69 ≠ r1_81 := Nat.ne_of_lt (Nat.lt_of_lt_of_le F80.lt sz_r1_81)
      have ne83 : b70 ≠ r1_81 := Nat.ne_of_lt (Nat.lt_of_lt_of_le V78.lt sz_r1_81)
      have sz84 : h0.size ≤ r1_81 := Nat.le_trans K78.1 sz_r1_81
      have K85 : Keep h0 T81.heap [] := K78.trans K81 all0
      have N81 := Fr.app N78 N81q
      have pre86 : ∀ t, Steps p.tables e below (T81.setTop (mkF m 141 (Lq0 p1 p2 p3 p4 ucap us0 us1 us2 (kI 2) (kR b69) (kR b70) kU kU kU kU kU) [(.ref r1_81)])) t → Steps p.tables e below (s₁.setTop (entryFrame m #[(.int p1), (.int p2), (.int p3), (.int p4)] maxLocals)) t := fun t k => pre68 t (by
        show Steps _ _ _ (s₁.setTop (mkF m 67 (Lq0 p1 p2 p3 p4 ucap us0 us1 us2 (kI 2) kU kU kU kU kU kU kU) [])) _
        refine XS.iload X0.here hx rfl (hb hby at_67) rfl ?_
        refine st69 _ ?_
        show Steps _ _ _ (T69.setTop (mkF m 71 (Lq0 p1 p2 p3 p4 ucap us0 us1 us2 (kI 2) kU kU kU kU kU kU kU) [(.ref b69)])) _
        refine XS.astore X69.here hx rfl (hb hby at_71) rfl rfl (l' := (Lq0 p1 p2 p3 p4 ucap us0 us1 us2 (kI 2) (kR b69) kU kU kU kU kU kU)) rfl ?_
        refine XS.iload X69.here hx rfl (hb hby at_73) rfl ?_
        refine st70 _ ?_
        refine XS.astore X70.here hx rfl (hb hby at_77) rfl rfl (l' := (Lq0 p1 p2 p3 p4 ucap us0 us1 us2 (kI 2) (kR b69) (kR b70) kU kU kU kU kU)) rfl ?_
        show Steps _ _ _ (T70.setTop (mkF m 79 (Lq0 p1 p2 p3 p4 ucap us0 us1 us2 (kI 2) (kR b69) (kR b70) kU kU kU kU kU) [])) _
        refine XS.iload X70.here hx rfl (hb hby at_79) rfl ?_
        refine XS.ifNo X70.here hx rfl (hb hby at_81) rfl ((if0 _ _).trans (tlt (by decide : (0 : Int32) < (2 : Int32))).2.2.2) ?_
        refine XS.aload X70.here hx rfl (hb hby at_84) rfl rfl ?_
        show Steps _ _ _ (T70.setTop (mkF m 86 (Lq0 p1 p2 p3 p4 ucap us0 us1 us2 (kI 2) (kR b69) (kR b70) kU kU kU kU kU) [(.ref b69)])) _
        refine XS.iconst X70.here hx rfl (hb hby at_86) ?_
        refine XS.iload X70.here hx rfl (hb hby at_87) rfl ?_
        refine st72 _ ?_
        refine XS.aload X72.here hx rfl (hb hby at_90) rfl rfl ?_
        show Steps _ _ _ (T72.setTop (mkF m 92 (Lq0 p1 p2 p3 p4 ucap us0 us1 us2 (kI 2) (kR b69) (kR b70) kU kU kU kU kU) [(.ref b70)])) _
        refine XS.iconst X72.here hx rfl (hb hby at_92) ?_
        refine XS.lload X72.here hx rfl (hb hby at_93) rfl ?_
        refine st74 _ ?_
        refine XS.iload X74.here hx rfl (hb hby at_96) rfl ?_
        show Steps _ _ _ (T74.setTop (mkF m 98 (Lq0 p1 p2 p3 p4 ucap us0 us1 us2 (kI 2) (kR b69) (kR b70) kU kU kU kU kU) [(.int (2 : Int32))])) _
        refine XS.iconst X74.here hx rfl (hb hby at_98) ?_
        refine XS.icmpNo X74.here hx rfl (hb hby at_99) rfl (tlt (by decide : (1 : Int32) < (2 : Int32))).2.2.2 ?_
        refine XS.aload X74.here hx rfl (hb hby at_102) rfl rfl ?_
        show Steps _ _ _ (T74.setTop (mkF m 104 (Lq0 p1 p2 p3 p4 ucap us0 us1 us2 (kI 2) (kR b69) (kR b70) kU kU kU kU kU) [(.ref b69)])) _
        refine XS.iconst X74.here hx rfl (hb hby at_104) ?_
        refine XS.iload X74.here hx rfl (hb hby at_105) rfl ?_
        refine st76 _ ?_
        refine XS.aload X76.here hx rfl (hb hby at_108) rfl rfl ?_
        show Steps _ _ _ (T76.setTop (mkF m 110 (Lq0 p1 p2 p3 p4 ucap us0 us1 us2 (kI 2) (kR b69) (kR b70) kU kU kU kU kU) [(.ref b70)])) _
        refine XS.iconst X76.here hx rfl (hb hby at_110) ?_
        refine XS.lload X76.here hx rfl (hb hby at_111) rfl ?_
        refine st78 _ ?_
        refine XS.iload X78.here hx rfl (hb hby at_114) rfl ?_
        show Steps _ _ _ (T78.setTop (mkF m 116 (Lq0 p1 p2 p3 p4 ucap us0 us1 us2 (kI 2) (kR b69) (kR b70) kU kU kU kU kU) [(.int (2 : Int32))])) _
        refine XS.iconst X78.here hx rfl (hb hby at_116) ?_
        refine XS.icmpYes X78.here hx rfl (pc0 := 117) (pc' := 132) rfl (hb hby at_117) rfl (flt (by decide : ¬ ((2 : Int32) < (2 : Int32)))).2.2.2 (by decide) (by decide) ?_
        refine XS.aload X78.here hx rfl (hb hby at_132) rfl rfl ?_
        show Steps _ _ _ (T78.setTop (mkF m 134 (Lq0 p1 p2 p3 p4 ucap us0 us1 us2 (kI 2) (kR b69) (kR b70) kU kU kU kU kU) [(.ref b69)])) _
        refine XS.aload X78.here hx rfl (hb hby at_134) rfl rfl ?_
        refine XS.iload X78.here hx rfl (hb hby at_136) rfl ?_
        show Steps _ _ _ (T78.setTop (mkF m 138 (Lq0 p1 p2 p3 p4 ucap us0 us1 us2 (kI 2) (kR b69) (kR b70) kU kU kU kU kU) [(.int ucap), (.ref b70), (.ref b69)])) _
        refine st81 _ ?_
        exact k)
      rcases P81_1 with ⟨hz, hvs, hg⟩ | ⟨hz, hvs, hg⟩ | ⟨hz, hvs, hg⟩ | ⟨hz, hvs, hg⟩
      · have Vr87 : AV Z T81.heap r1_81 .int (0 : Int32) [] := by have q := P81_0; rw [hz, hvs] at q; exact q
        obtain ⟨cl88, A88, S88, Nl88, M88⟩ := id Vr87
        obtain ⟨cl89, A89, S89, Nl89, M89⟩ := id Vr87
        have pre90 : ∀ t, Steps p.tables e below (T81.setTop (mkF m 339 (Lq0 p1 p2 p3 p4 ucap us0 us1 us2 (kI 2) (kR b69) (kR b70) (kR r1_81) (kI 0) (kI 0) (kI (-1)) kU) [])) t → Steps p.tables e below (s₁.setTop (entryFrame m #[(.int p1), (.int p2), (.int p3), (.int p4)] maxLocals)) t := fun t k => pre86 t (by
          show Steps _ _ _ (T81.setTop (mkF m 141 (Lq0 p1 p2 p3 p4 ucap us0 us1 us2 (kI 2) (kR b69) (kR b70) kU kU kU kU kU) [(.ref r1_81)])) _
          refine XS.astore X81.here hx rfl (hb hby at_141) rfl rfl (l' := (Lq0 p1 p2 p3 p4 ucap us0 us1 us2 (kI 2) (kR b69) (kR b70) (kR r1_81) kU kU kU kU)) rfl ?_
          show Steps _ _ _ (T81.setTop (mkF m 143 (Lq0 p1 p2 p3 p4 ucap us0 us1 us2 (kI 2) (kR b69) (kR b70) (kR r1_81) kU kU kU kU) [])) _
          refine XS.aload X81.here hx rfl (hb hby at_143) rfl rfl ?_
          refine XS.ifnullNo X81.here hx rfl (hb hby at_145) rfl ?_
          refine XS.aload X81.here hx rfl (hb hby at_148) rfl rfl ?_
          refine X81.arraylength hx (by exact A88.1) (State.isArrayOf_alike hZ.alike A88.2.1) (g := (mkF m 150 (Lq0 p1 p2 p3 p4 ucap us0 us1 us2 (kI 2) (kR b69) (kR b70) (kR r1_81) kU kU kU kU) [(.ref r1_81)])) rfl rfl (hb hby at_150) _ ?_
          rw [AV.len S88 Nl88 M88]
          show Steps _ _ _ (T81.setTop (mkF m 151 (Lq0 p1 p2 p3 p4 ucap us0 us1 us2 (kI 2) (kR b69) (kR b70) (kR r1_81) kU kU kU kU) [(.int (0 : Int32))])) _
          refine XS.iload X81.here hx rfl (hb hby at_151) rfl ?_
          refine XS.icmpYes X81.here hx rfl (pc0 := 153) (pc' := 158) rfl (hb hby at_153) rfl (flt (by decide : ¬ ((2 : Int32) < (0 : Int32)))).2.2.2 (by decide) (by decide) ?_
          refine XS.aload X81.here hx rfl (hb hby at_158) rfl rfl ?_
          refine X81.arraylength hx (by exact A89.1) (State.isArrayOf_alike hZ.alike A89.2.1) (g := (mkF m 160 (Lq0 p1 p2 p3 p4 ucap us0 us1 us2 (kI 2) (kR b69) (kR b70) (kR r1_81) kU kU kU kU) [(.ref r1_81)])) rfl rfl (hb hby at_160) _ ?_
          rw [AV.len S89 Nl89 M89]
          show Steps _ _ _ (T81.setTop (mkF m 161 (Lq0 p1 p2 p3 p4 ucap us0 us1 us2 (kI 2) (kR b69) (kR b70) (kR r1_81) kU kU kU kU) [(.int (0 : Int32))])) _
          refine XS.istore X81.here hx rfl (hb hby at_161) rfl (l' := (Lq0 p1 p2 p3 p4 ucap us0 us1 us2 (kI 2) (kR b69) (kR b70) (kR r1_81) (kI 0) kU kU kU)) rfl ?_
          refine XS.iconst X81.here hx rfl (hb hby at_163) ?_
          refine XS.istore X81.here hx rfl (hb hby at_164) rfl (l' := (Lq0 p1 p2 p3 p4 ucap us0 us1 us2 (kI 2) (kR b69) (kR b70) (kR r1_81) (kI 0) (kI 0) kU kU)) rfl ?_
          show Steps _ _ _ (T81.setTop (mkF m 166 (Lq0 p1 p2 p3 p4 ucap us0 us1 us2 (kI 2) (kR b69) (kR b70) (kR r1_81) (kI 0) (kI 0) kU kU) [])) _
          refine XS.iconst X81.here hx rfl (hb hby at_166) ?_
          refine XS.istore X81.here hx rfl (hb hby at_167) rfl (l' := (Lq0 p1 p2 p3 p4 ucap us0 us1 us2 (kI 2) (kR b69) (kR b70) (kR r1_81) (kI 0) (kI 0) (kI (-1)) kU)) rfl ?_
          refine XS.iload X81.here hx rfl (hb hby at_169) rfl ?_
          show Steps _ _ _ (T81.setTop (mkF m 171 (Lq0 p1 p2 p3 p4 ucap us0 us1 us2 (kI 2) (kR b69) (kR b70) (kR r1_81) (kI 0) (kI 0) (kI (-1)) kU) [(.int (0 : Int32))])) _
          refine XS.ifYes X81.here hx rfl (pc0 := 171) (pc' := 209) rfl (hb hby at_171) rfl ((if0 _ _).trans (flt (by decide : ¬ ((0 : Int32) < (0 : Int32)))).2.2.2) (by decide) (by decide) ?_
          refine XS.iload X81.here hx rfl (hb hby at_209) rfl ?_
          refine XS.iconst X81.here hx rfl (hb hby at_211) ?_
          show Steps _ _ _ (T81.setTop (mkF m 212 (Lq0 p1 p2 p3 p4 ucap us0 us1 us2 (kI 2) (kR b69) (kR b70) (kR r1_81) (kI 0) (kI 0) (kI (-1)) kU) [(.int (1 : Int32)), (.int (0 : Int32))])) _
          refine XS.icmpYes X81.here hx rfl (pc0 := 212) (pc' := 250) rfl (hb hby at_212) rfl (flt (by decide : ¬ ((1 : Int32) < (0 : Int32)))).2.2.2 (by decide) (by decide) ?_
          refine XS.iload X81.here hx rfl (hb hby at_250) rfl ?_
          refine XS.iconst X81.here hx rfl (hb hby at_252) ?_
          show Steps _ _ _ (T81.setTop (mkF m 253 (Lq0 p1 p2 p3 p4 ucap us0 us1 us2 (kI 2) (kR b69) (kR b70) (kR r1_81) (kI 0) (kI 0) (kI (-1)) kU) [(.int (2 : Int32)), (.int (0 : Int32))])) _
          refine XS.icmpYes X81.here hx rfl (pc0 := 253) (pc' := 291) rfl (hb hby at_253) rfl (flt (by decide : ¬ ((2 : Int32) < (0 : Int32)))).2.2.2 (by decide) (by decide) ?_
          refine XS.iload X81.here hx rfl (hb hby at_291) rfl ?_
          refine XS.iconst X81.here hx rfl (hb hby at_293) ?_
          show Steps _ _ _ (T81.setTop (mkF m 294 (Lq0 p1 p2 p3 p4 ucap us0 us1 us2 (kI 2) (kR b69) (kR b70) (kR r1_81) (kI 0) (kI 0) (kI (-1)) kU) [(.int (1 : Int32)), (.int (0 : Int32))])) _
          refine XS.iand X81.here hx rfl (hb hby at_294) rfl ?_
          refine XS.ifYes X81.here hx rfl (pc0 := 295) (pc' := 307) rfl (hb hby at_295) rfl ((if0 _ _).trans (teq (rfl : (0 : Int32) = (0 : Int32))).1) (by decide) (by decide) ?_
          refine XS.iload X81.here hx rfl (hb hby at_307) rfl ?_
          show Steps _ _ _ (T81.setTop (mkF m 309 (Lq0 p1 p2 p3 p4 ucap us0 us1 us2 (kI 2) (kR b69) (kR b70) (kR r1_81) (kI 0) (kI 0) (kI (-1)) kU) [(.int (0 : Int32))])) _
          refine XS.iconst X81.here hx rfl (hb hby at_309) ?_
          refine XS.iand X81.here hx rfl (hb hby at_310) rfl ?_
          refine XS.ifYes X81.here hx rfl (pc0 := 311) (pc' := 323) rfl (hb hby at_311) rfl ((if0 _ _).trans (teq (rfl : (0 : Int32) = (0 : Int32))).1) (by decide) (by decide) ?_
          show Steps _ _ _ (T81.setTop (mkF m 323 (Lq0 p1 p2 p3 p4 ucap us0 us1 us2 (kI 2) (kR b69) (kR b70) (kR r1_81) (kI 0) (kI 0) (kI (-1)) kU) [])) _
          refine XS.iload X81.here hx rfl (hb hby at_323) rfl ?_
          refine XS.iconst X81.here hx rfl (hb hby at_325) ?_
          refine XS.iand X81.here hx rfl (hb hby at_326) rfl ?_
          show Steps _ _ _ (T81.setTop (mkF m 327 (Lq0 p1 p2 p3 p4 ucap us0 us1 us2 (kI 2) (kR b69) (kR b70) (kR r1_81) (kI 0) (kI 0) (kI (-1)) kU) [(.int (0 : Int32))])) _
          refine XS.ifYes X81.here hx rfl (pc0 := 327) (pc' := 339) rfl (hb hby at_327) rfl ((if0 _ _).trans (teq (rfl : (0 : Int32) = (0 : Int32))).1) (by decide) (by decide) ?_
          exact k)
        have he91 := own_end_2_0 hcapL hsL0 hsL1 hsL2 (own_vrL p2) (own_vrL p3) (own_vrL p4) hg
        exact jn2 (T81, _, _, (2 : Int32), b69, b70, r1_81, (0 : Int32), (0 : Int32), (-1 : Int32), .unset) ⟨he91.1, he91.2, (Or.inl rfl), (X81.more (by decide) (by decide)), rfl, N81, K85, fun t k => pre90 t k⟩
      · have Vr92 : AV Z T81.heap r1_81 .int (1 : Int32) [(.int (0 : Int32))] := by have q := P81_0; rw [hz, hvs] at q; exact q
        obtain ⟨cl93, A93, S93, Nl93, M93⟩ := id Vr92
        obtain ⟨cl94, A94, S94, Nl94, M94⟩ := id Vr92
        obtain ⟨cl95, A95, S95, Nl95, M95⟩ := id Vr92
        have hin95 : ¬ ((0 : Int32) < 0 ∨ cl95.slots.size ≤ ((0 : Int32)).toNatClampNeg) := AV.inb S95 Nl95 ⟨by decide, by decide⟩
        have hat95 : cl95.slots[((0 : Int32)).toNatClampNeg]? = some (.int (0 : Int32)) := AV.at S95 rfl
        have hc96 : (0 : Int32) < (lcmpW (p2.toInt64) (0 : Int64)) := by exact own_gt.mpr (Int64.lt_iff_toInt_lt.mpr (hg.1 rfl))
        have pre97 : ∀ t, Steps p.tables e below (T81.setTop (mkF m 339 (Lq0 p1 p2 p3 p4 ucap us0 us1 us2 (kI 2) (kR b69) (kR b70) (kR r1_81) (kI 1) (kI 1) (kI 0) (kI 0)) [])) t → Steps p.tables e below (s₁.setTop (entryFrame m #[(.int p1), (.int p2), (.int p3), (.int p4)] maxLocals)) t := fun t k => pre86 t (by
          show Steps _ _ _ (T81.setTop (mkF m 141 (Lq0 p1 p2 p3 p4 ucap us0 us1 us2 (kI 2) (kR b69) (kR b70) kU kU kU kU kU) [(.ref r1_81)])) _
          refine XS.astore X81.here hx rfl (hb hby at_141) rfl rfl (l' := (Lq0 p1 p2 p3 p4 ucap us0 us1 us2 (kI 2) (kR b69) (kR b70) (kR r1_81) kU kU kU kU)) rfl ?_
          refine XS.aload X81.here hx rfl (hb hby at_143) rfl rfl ?_
          show Steps _ _ _ (T81.setTop (mkF m 145 (Lq0 p1 p2 p3 p4 ucap us0 us1 us2 (kI 2) (kR b69) (kR b70) (kR r1_81) kU kU kU kU) [(.ref r1_81)])) _
          refine XS.ifnullNo X81.here hx rfl (hb hby at_145) rfl ?_
          refine XS.aload X81.here hx rfl (hb hby at_148) rfl rfl ?_
          refine X81.arraylength hx (by exact A93.1) (State.isArrayOf_alike hZ.alike A93.2.1) (g := (mkF m 150 (Lq0 p1 p2 p3 p4 ucap us0 us1 us2 (kI 2) (kR b69) (kR b70) (kR r1_81) kU kU kU kU) [(.ref r1_81)])) rfl rfl (hb hby at_150) _ ?_
          rw [AV.len S93 Nl93 M93]
          refine XS.iload X81.here hx rfl (hb hby at_151) rfl ?_
          show Steps _ _ _ (T81.setTop (mkF m 153 (Lq0 p1 p2 p3 p4 ucap us0 us1 us2 (kI 2) (kR b69) (kR b70) (kR r1_81) kU kU kU kU) [(.int (2 : Int32)), (.int (1 : Int32))])) _
          refine XS.icmpYes X81.here hx rfl (pc0 := 153) (pc' := 158) rfl (hb hby at_153) rfl (flt (by decide : ¬ ((2 : Int32) < (1 : Int32)))).2.2.2 (by decide) (by decide) ?_
          refine XS.aload X81.here hx rfl (hb hby at_158) rfl rfl ?_
          refine X81.arraylength hx (by exact A94.1) (State.isArrayOf_alike hZ.alike A94.2.1) (g := (mkF m 160 (Lq0 p1 p2 p3 p4 ucap us0 us1 us2 (kI 2) (kR b69) (kR b70) (kR r1_81) kU kU kU kU) [(.ref r1_81)])) rfl rfl (hb hby at_160) _ ?_
          rw [AV.len S94 Nl94 M94]
          refine XS.istore X81.here hx rfl (hb hby at_161) rfl (l' := (Lq0 p1 p2 p3 p4 ucap us0 us1 us2 (kI 2) (kR b69) (kR b70) (kR r1_81) (kI 1) kU kU kU)) rfl ?_
          show Steps _ _ _ (T81.setTop (mkF m 163 (Lq0 p1 p2 p3 p4 ucap us0 us1 us2 (kI 2) (kR b69) (kR b70) (kR r1_81) (kI 1) kU kU kU) [])) _
          refine XS.iconst X81.here hx rfl (hb hby at_163) ?_
          refine XS.istore X81.here hx rfl (hb hby at_164) rfl (l' := (Lq0 p1 p2 p3 p4 ucap us0 us1 us2 (kI 2) (kR b69) (kR b70) (kR r1_81) (kI 1) (kI 0) kU kU)) rfl ?_
          refine XS.iconst X81.here hx rfl (hb hby at_166) ?_
          show Steps _ _ _ (T81.setTop (mkF m 167 (Lq0 p1 p2 p3 p4 ucap us0 us1 us2 (kI 2) (kR b69) (kR b70) (kR r1_81) (kI 1) (kI 0) kU kU) [(.int (-1 : Int32))])) _
          refine XS.istore X81.here hx rfl (hb hby at_167) rfl (l' := (Lq0 p1 p2 p3 p4 ucap us0 us1 us2 (kI 2) (kR b69) (kR b70) (kR r1_81) (kI 1) (kI 0) (kI (-1)) kU)) rfl ?_
          refine XS.iload X81.here hx rfl (hb hby at_169) rfl ?_
          refine XS.ifNo X81.here hx rfl (hb hby at_171) rfl ((if0 _ _).trans (tlt (by decide : (0 : Int32) < (1 : Int32))).2.2.2) ?_
          show Steps _ _ _ (T81.setTop (mkF m 174 (Lq0 p1 p2 p3 p4 ucap us0 us1 us2 (kI 2) (kR b69) (kR b70) (kR r1_81) (kI 1) (kI 0) (kI (-1)) kU) [])) _
          refine XS.aload X81.here hx rfl (hb hby at_174) rfl rfl ?_
          refine XS.iconst X81.here hx rfl (hb hby at_176) ?_
          refine X81.iaload hx (j := (0 : Int32)) (v := (.int (0 : Int32))) (by exact A95.1) (State.isArrayOf_alike hZ.alike A95.2.1) A95.2.2 hin95 hat95 (g := (mkF m 177 (Lq0 p1 p2 p3 p4 ucap us0 us1 us2 (kI 2) (kR b69) (kR b70) (kR r1_81) (kI 1) (kI 0) (kI (-1)) kU) [(.int (0 : Int32)), (.ref r1_81)])) rfl rfl (hb hby at_177) _ ?_
          refine XS.istore X81.here hx rfl (hb hby at_178) rfl (l' := (Lq0 p1 p2 p3 p4 ucap us0 us1 us2 (kI 2) (kR b69) (kR b70) (kR r1_81) (kI 1) (kI 0) (kI (-1)) (kI 0))) rfl ?_
          show Steps _ _ _ (T81.setTop (mkF m 180 (Lq0 p1 p2 p3 p4 ucap us0 us1 us2 (kI 2) (kR b69) (kR b70) (kR r1_81) (kI 1) (kI 0) (kI (-1)) (kI 0)) [])) _
          refine XS.iload X81.here hx rfl (hb hby at_180) rfl ?_
          refine XS.iload X81.here hx rfl (hb hby at_182) rfl ?_
          refine XS.icmpNo X81.here hx rfl (hb hby at_184) rfl (tlt (by decide : (-1 : Int32) < (0 : Int32))).2.2.2 ?_
          show Steps _ _ _ (T81.setTop (mkF m 187 (Lq0 p1 p2 p3 p4 ucap us0 us1 us2 (kI 2) (kR b69) (kR b70) (kR r1_81) (kI 1) (kI 0) (kI (-1)) (kI 0)) [])) _
          refine XS.iload X81.here hx rfl (hb hby at_187) rfl ?_
          refine XS.iload X81.here hx rfl (hb hby at_189) rfl ?_
          refine XS.icmpYes X81.here hx rfl (pc0 := 191) (pc' := 196) rfl (hb hby at_191) rfl (tlt (by decide : (0 : Int32) < (2 : Int32))).1 (by decide) (by decide) ?_
          show Steps _ _ _ (T81.setTop (mkF m 196 (Lq0 p1 p2 p3 p4 ucap us0 us1 us2 (kI 2) (kR b69) (kR b70) (kR r1_81) (kI 1) (kI 0) (kI (-1)) (kI 0)) [])) _
          refine XS.iload X81.here hx rfl (hb hby at_196) rfl ?_
          refine XS.iconst X81.here hx rfl (hb hby at_198) ?_
          refine XS.iload X81.here hx rfl (hb hby at_199) rfl ?_
          show Steps _ _ _ (T81.setTop (mkF m 201 (Lq0 p1 p2 p3 p4 ucap us0 us1 us2 (kI 2) (kR b69) (kR b70) (kR r1_81) (kI 1) (kI 0) (kI (-1)) (kI 0)) [(.int (0 : Int32)), (.int (1 : Int32)), (.int (0 : Int32))])) _
          refine XS.ishl X81.here hx rfl (hb hby at_201) rfl ?_
          refine XS.ior X81.here hx rfl (hb hby at_202) rfl ?_
          refine XS.istore X81.here hx rfl (hb hby at_203) rfl (l' := (Lq0 p1 p2 p3 p4 ucap us0 us1 us2 (kI 2) (kR b69) (kR b70) (kR r1_81) (kI 1) (kI 1) (kI (-1)) (kI 0))) rfl ?_
          show Steps _ _ _ (T81.setTop (mkF m 205 (Lq0 p1 p2 p3 p4 ucap us0 us1 us2 (kI 2) (kR b69) (kR b70) (kR r1_81) (kI 1) (kI 1) (kI (-1)) (kI 0)) [])) _
          refine XS.iload X81.here hx rfl (hb hby at_205) rfl ?_
          refine XS.istore X81.here hx rfl (hb hby at_207) rfl (l' := (Lq0 p1 p2 p3 p4 ucap us0 us1 us2 (kI 2) (kR b69) (kR b70) (kR r1_81) (kI 1) (kI 1) (kI 0) (kI 0))) rfl ?_
          refine XS.iload X81.here hx rfl (hb hby at_209) rfl ?_
          show Steps _ _ _ (T81.setTop (mkF m 211 (Lq0 p1 p2 p3 p4 ucap us0 us1 us2 (kI 2) (kR b69) (kR b70) (kR r1_81) (kI 1) (kI 1) (kI 0) (kI 0)) [(.int (1 : Int32))])) _
          refine XS.iconst X81.here hx rfl (hb hby at_211) ?_
          refine XS.icmpYes X81.here hx rfl (pc0 := 212) (pc' := 250) rfl (hb hby at_212) rfl (flt (by decide : ¬ ((1 : Int32) < (1 : Int32)))).2.2.2 (by decide) (by decide) ?_
          refine XS.iload X81.here hx rfl (hb hby at_250) rfl ?_
          show Steps _ _ _ (T81.setTop (mkF m 252 (Lq0 p1 p2 p3 p4 ucap us0 us1 us2 (kI 2) (kR b69) (kR b70) (kR r1_81) (kI 1) (kI 1) (kI 0) (kI 0)) [(.int (1 : Int32))])) _
          refine XS.iconst X81.here hx rfl (hb hby at_252) ?_
          refine XS.icmpYes X81.here hx rfl (pc0 := 253) (pc' := 291) rfl (hb hby at_253) rfl (flt (by decide : ¬ ((2 : Int32) < (1 : Int32)))).2.2.2 (by decide) (by decide) ?_
          refine XS.iload X81.here hx rfl (hb hby at_291) rfl ?_
          show Steps _ _ _ (T81.setTop (mkF m 293 (Lq0 p1 p2 p3 p4 ucap us0 us1 us2 (kI 2) (kR b69) (kR b70) (kR r1_81) (kI 1) (kI 1) (kI 0) (kI 0)) [(.int (1 : Int32))])) _
          refine XS.iconst X81.here hx rfl (hb hby at_293) ?_
          refine XS.iand X81.here hx rfl (hb hby at_294) rfl ?_
          refine XS.ifNo X81.here hx rfl (hb hby at_295) rfl ((if0 _ _).trans (feq (by decide : ¬ ((1 : Int32) = (0 : Int32)))).1) ?_
          show Steps _ _ _ (T81.setTop (mkF m 298 (Lq0 p1 p2 p3 p4 ucap us0 us1 us2 (kI 2) (kR b69) (kR b70) (kR r1_81) (kI 1) (kI 1) (kI 0) (kI 0)) [])) _
          refine XS.lload X81.here hx rfl (hb hby at_298) rfl ?_
          refine XS.lconst X81.here hx rfl (hb hby at_300) ?_
          refine XS.lcmp X81.here hx rfl (hb hby at_301) rfl ?_
          show Steps _ _ _ (T81.setTop (mkF m 302 (Lq0 p1 p2 p3 p4 ucap us0 us1 us2 (kI 2) (kR b69) (kR b70) (kR r1_81) (kI 1) (kI 1) (kI 0) (kI 0)) [(.int (lcmpW (p2.toInt64) (0 : Int64)))])) _
          refine XS.ifYes X81.here hx rfl (pc0 := 302) (pc' := 307) rfl (hb hby at_302) rfl ((if0 _ _).trans (tlt hc96).2.2.1) (by decide) (by decide) ?_
          refine XS.iload X81.here hx rfl (hb hby at_307) rfl ?_
          refine XS.iconst X81.here hx rfl (hb hby at_309) ?_
          show Steps _ _ _ (T81.setTop (mkF m 310 (Lq0 p1 p2 p3 p4 ucap us0 us1 us2 (kI 2) (kR b69) (kR b70) (kR r1_81) (kI 1) (kI 1) (kI 0) (kI 0)) [(.int (2 : Int32)), (.int (1 : Int32))])) _
          refine XS.iand X81.here hx rfl (hb hby at_310) rfl ?_
          refine XS.ifYes X81.here hx rfl (pc0 := 311) (pc' := 323) rfl (hb hby at_311) rfl ((if0 _ _).trans (teq (rfl : (0 : Int32) = (0 : Int32))).1) (by decide) (by decide) ?_
          refine XS.iload X81.here hx rfl (hb hby at_323) rfl ?_
          show Steps _ _ _ (T81.setTop (mkF m 325 (Lq0 p1 p2 p3 p4 ucap us0 us1 us2 (kI 2) (kR b69) (kR b70) (kR r1_81) (kI 1) (kI 1) (kI 0) (kI 0)) [(.int (1 : Int32))])) _
          refine XS.iconst X81.here hx rfl (hb hby at_325) ?_
          refine XS.iand X81.here hx rfl (hb hby at_326) rfl ?_
          refine XS.ifYes X81.here hx rfl (pc0 := 327) (pc' := 339) rfl (hb hby at_327) rfl ((if0 _ _).trans (teq (rfl : (0 : Int32) = (0 : Int32))).1) (by decide) (by decide) ?_
          exact k)
        have he98 := own_end_2_1 hcapL hsL0 hsL1 hsL2 (own_vrL p2) (own_vrL p3) (own_vrL p4) hg
        exact jn2 (T81, _, _, (2 : Int32), b69, b70, r1_81, (1 : Int32), (1 : Int32), (0 : Int32), .val (.int (0 : Int32))) ⟨he98.1, he98.2, (Or.inr (Or.inl ⟨_, rfl⟩)), (X81.more (by decide) (by decide)), rfl, N81, K85, fun t k => pre97 t k⟩
      · have Vr99 : AV Z T81.heap r1_81 .int (1 : Int32) [(.int (1 : Int32))] := by have q := P81_0; rw [hz, hvs] at q; exact q
        obtain ⟨cl100, A100, S100, Nl100, M100⟩ := id Vr99
        obtain ⟨cl101, A101, S101, Nl101, M101⟩ := id Vr99
        obtain ⟨cl102, A102, S102, Nl102, M102⟩ := id Vr99
        have hin102 : ¬ ((0 : Int32) < 0 ∨ cl102.slots.size ≤ ((0 : Int32)).toNatClampNeg) := AV.inb S102 Nl102 ⟨by decide, by decide⟩
        have hat102 : cl102.slots[((0 : Int32)).toNatClampNeg]? = some (.int (1 : Int32)) := AV.at S102 rfl
        have hc103 : (0 : Int32) < (lcmpW (p3.toInt64) (0 : Int64)) := by exact own_gt.mpr (Int64.lt_iff_toInt_lt.mpr (hg.2.1 rfl))
        have pre104 : ∀ t, Steps p.tables e below (T81.setTop (mkF m 339 (Lq0 p1 p2 p3 p4 ucap us0 us1 us2 (kI 2) (kR b69) (kR b70) (kR r1_81) (kI 1) (kI 2) (kI 1) (kI 1)) [])) t → Steps p.tables e below (s₁.setTop (entryFrame m #[(.int p1), (.int p2), (.int p3), (.int p4)] maxLocals)) t := fun t k => pre86 t (by
          show Steps _ _ _ (T81.setTop (mkF m 141 (Lq0 p1 p2 p3 p4 ucap us0 us1 us2 (kI 2) (kR b69) (kR b70) kU kU kU kU kU) [(.ref r1_81)])) _
          refine XS.astore X81.here hx rfl (hb hby at_141) rfl rfl (l' := (Lq0 p1 p2 p3 p4 ucap us0 us1 us2 (kI 2) (kR b69) (kR b70) (kR r1_81) kU kU kU kU)) rfl ?_
          refine XS.aload X81.here hx rfl (hb hby at_143) rfl rfl ?_
          refine XS.ifnullNo X81.here hx rfl (hb hby at_145) rfl ?_
          show Steps _ _ _ (T81.setTop (mkF m 148 (Lq0 p1 p2 p3 p4 ucap us0 us1 us2 (kI 2) (kR b69) (kR b70) (kR r1_81) kU kU kU kU) [])) _
          refine XS.aload X81.here hx rfl (hb hby at_148) rfl rfl ?_
          refine X81.arraylength hx (by exact A100.1) (State.isArrayOf_alike hZ.alike A100.2.1) (g := (mkF m 150 (Lq0 p1 p2 p3 p4 ucap us0 us1 us2 (kI 2) (kR b69) (kR b70) (kR r1_81) kU kU kU kU) [(.ref r1_81)])) rfl rfl (hb hby at_150) _ ?_
          rw [AV.len S100 Nl100 M100]
          refine XS.iload X81.here hx rfl (hb hby at_151) rfl ?_
          refine XS.icmpYes X81.here hx rfl (pc0 := 153) (pc' := 158) rfl (hb hby at_153) rfl (flt (by decide : ¬ ((2 : Int32) < (1 : Int32)))).2.2.2 (by decide) (by decide) ?_
          show Steps _ _ _ (T81.setTop (mkF m 158 (Lq0 p1 p2 p3 p4 ucap us0 us1 us2 (kI 2) (kR b69) (kR b70) (kR r1_81) kU kU kU kU) [])) _
          refine XS.aload X81.here hx rfl (hb hby at_158) rfl rfl ?_
          refine X81.arraylength hx (by exact A101.1) (State.isArrayOf_alike hZ.alike A101.2.1) (g := (mkF m 160 (Lq0 p1 p2 p3 p4 ucap us0 us1 us2 (kI 2) (kR b69) (kR b70) (kR r1_81) kU kU kU kU) [(.ref r1_81)])) rfl rfl (hb hby at_160) _ ?_
          rw [AV.len S101 Nl101 M101]
          refine XS.istore X81.here hx rfl (hb hby at_161) rfl (l' := (Lq0 p1 p2 p3 p4 ucap us0 us1 us2 (kI 2) (kR b69) (kR b70) (kR r1_81) (kI 1) kU kU kU)) rfl ?_
          refine XS.iconst X81.here hx rfl (hb hby at_163) ?_
          show Steps _ _ _ (T81.setTop (mkF m 164 (Lq0 p1 p2 p3 p4 ucap us0 us1 us2 (kI 2) (kR b69) (kR b70) (kR r1_81) (kI 1) kU kU kU) [(.int (0 : Int32))])) _
          refine XS.istore X81.here hx rfl (hb hby at_164) rfl (l' := (Lq0 p1 p2 p3 p4 ucap us0 us1 us2 (kI 2) (kR b69) (kR b70) (kR r1_81) (kI 1) (kI 0) kU kU)) rfl ?_
          refine XS.iconst X81.here hx rfl (hb hby at_166) ?_
          refine XS.istore X81.here hx rfl (hb hby at_167) rfl (l' := (Lq0 p1 p2 p3 p4 ucap us0 us1 us2 (kI 2) (kR b69) (kR b70) (kR r1_81) (kI 1) (kI 0) (kI (-1)) kU)) rfl ?_
          show Steps _ _ _ (T81.setTop (mkF m 169 (Lq0 p1 p2 p3 p4 ucap us0 us1 us2 (kI 2) (kR b69) (kR b70) (kR r1_81) (kI 1) (kI 0) (kI (-1)) kU) [])) _
          refine XS.iload X81.here hx rfl (hb hby at_169) rfl ?_
          refine XS.ifNo X81.here hx rfl (hb hby at_171) rfl ((if0 _ _).trans (tlt (by decide : (0 : Int32) < (1 : Int32))).2.2.2) ?_
          refine XS.aload X81.here hx rfl (hb hby at_174) rfl rfl ?_
          show Steps _ _ _ (T81.setTop (mkF m 176 (Lq0 p1 p2 p3 p4 ucap us0 us1 us2 (kI 2) (kR b69) (kR b70) (kR r1_81) (kI 1) (kI 0) (kI (-1)) kU) [(.ref r1_81)])) _
          refine XS.iconst X81.here hx rfl (hb hby at_176) ?_
          refine X81.iaload hx (j := (0 : Int32)) (v := (.int (1 : Int32))) (by exact A102.1) (State.isArrayOf_alike hZ.alike A102.2.1) A102.2.2 hin102 hat102 (g := (mkF m 177 (Lq0 p1 p2 p3 p4 ucap us0 us1 us2 (kI 2) (kR b69) (kR b70) (kR r1_81) (kI 1) (kI 0) (kI (-1)) kU) [(.int (0 : Int32)), (.ref r1_81)])) rfl rfl (hb hby at_177) _ ?_
          refine XS.istore X81.here hx rfl (hb hby at_178) rfl (l' := (Lq0 p1 p2 p3 p4 ucap us0 us1 us2 (kI 2) (kR b69) (kR b70) (kR r1_81) (kI 1) (kI 0) (kI (-1)) (kI 1))) rfl ?_
          refine XS.iload X81.here hx rfl (hb hby at_180) rfl ?_
          show Steps _ _ _ (T81.setTop (mkF m 182 (Lq0 p1 p2 p3 p4 ucap us0 us1 us2 (kI 2) (kR b69) (kR b70) (kR r1_81) (kI 1) (kI 0) (kI (-1)) (kI 1)) [(.int (1 : Int32))])) _
          refine XS.iload X81.here hx rfl (hb hby at_182) rfl ?_
          refine XS.icmpNo X81.here hx rfl (hb hby at_184) rfl (tlt (by decide : (-1 : Int32) < (1 : Int32))).2.2.2 ?_
          refine XS.iload X81.here hx rfl (hb hby at_187) rfl ?_
          show Steps _ _ _ (T81.setTop (mkF m 189 (Lq0 p1 p2 p3 p4 ucap us0 us1 us2 (kI 2) (kR b69) (kR b70) (kR r1_81) (kI 1) (kI 0) (kI (-1)) (kI 1)) [(.int (1 : Int32))])) _
          refine XS.iload X81.here hx rfl (hb hby at_189) rfl ?_
          refine XS.icmpYes X81.here hx rfl (pc0 := 191) (pc' := 196) rfl (hb hby at_191) rfl (tlt (by decide : (1 : Int32) < (2 : Int32))).1 (by decide) (by decide) ?_
          refine XS.iload X81.here hx rfl (hb hby at_196) rfl ?_
          show Steps _ _ _ (T81.setTop (mkF m 198 (Lq0 p1 p2 p3 p4 ucap us0 us1 us2 (kI 2) (kR b69) (kR b70) (kR r1_81) (kI 1) (kI 0) (kI (-1)) (kI 1)) [(.int (0 : Int32))])) _
          refine XS.iconst X81.here hx rfl (hb hby at_198) ?_
          refine XS.iload X81.here hx rfl (hb hby at_199) rfl ?_
          refine XS.ishl X81.here hx rfl (hb hby at_201) rfl ?_
          show Steps _ _ _ (T81.setTop (mkF m 202 (Lq0 p1 p2 p3 p4 ucap us0 us1 us2 (kI 2) (kR b69) (kR b70) (kR r1_81) (kI 1) (kI 0) (kI (-1)) (kI 1)) [(.int (2 : Int32)), (.int (0 : Int32))])) _
          refine XS.ior X81.here hx rfl (hb hby at_202) rfl ?_
          refine XS.istore X81.here hx rfl (hb hby at_203) rfl (l' := (Lq0 p1 p2 p3 p4 ucap us0 us1 us2 (kI 2) (kR b69) (kR b70) (kR r1_81) (kI 1) (kI 2) (kI (-1)) (kI 1))) rfl ?_
          refine XS.iload X81.here hx rfl (hb hby at_205) rfl ?_
          show Steps _ _ _ (T81.setTop (mkF m 207 (Lq0 p1 p2 p3 p4 ucap us0 us1 us2 (kI 2) (kR b69) (kR b70) (kR r1_81) (kI 1) (kI 2) (kI (-1)) (kI 1)) [(.int (1 : Int32))])) _
          refine XS.istore X81.here hx rfl (hb hby at_207) rfl (l' := (Lq0 p1 p2 p3 p4 ucap us0 us1 us2 (kI 2) (kR b69) (kR b70) (kR r1_81) (kI 1) (kI 2) (kI 1) (kI 1))) rfl ?_
          refine XS.iload X81.here hx rfl (hb hby at_209) rfl ?_
          refine XS.iconst X81.here hx rfl (hb hby at_211) ?_
          show Steps _ _ _ (T81.setTop (mkF m 212 (Lq0 p1 p2 p3 p4 ucap us0 us1 us2 (kI 2) (kR b69) (kR b70) (kR r1_81) (kI 1) (kI 2) (kI 1) (kI 1)) [(.int (1 : Int32)), (.int (1 : Int32))])) _
          refine XS.icmpYes X81.here hx rfl (pc0 := 212) (pc' := 250) rfl (hb hby at_212) rfl (flt (by decide : ¬ ((1 : Int32) < (1 : Int32)))).2.2.2 (by decide) (by decide) ?_
          refine XS.iload X81.here hx rfl (hb hby at_250) rfl ?_
          refine XS.iconst X81.here hx rfl (hb hby at_252) ?_
          show Steps _ _ _ (T81.setTop (mkF m 253 (Lq0 p1 p2 p3 p4 ucap us0 us1 us2 (kI 2) (kR b69) (kR b70) (kR r1_81) (kI 1) (kI 2) (kI 1) (kI 1)) [(.int (2 : Int32)), (.int (1 : Int32))])) _
          refine XS.icmpYes X81.here hx rfl (pc0 := 253) (pc' := 291) rfl (hb hby at_253) rfl (flt (by decide : ¬ ((2 : Int32) < (1 : Int32)))).2.2.2 (by decide) (by decide) ?_
          refine XS.iload X81.here hx rfl (hb hby at_291) rfl ?_
          refine XS.iconst X81.here hx rfl (hb hby at_293) ?_
          show Steps _ _ _ (T81.setTop (mkF m 294 (Lq0 p1 p2 p3 p4 ucap us0 us1 us2 (kI 2) (kR b69) (kR b70) (kR r1_81) (kI 1) (kI 2) (kI 1) (kI 1)) [(.int (1 : Int32)), (.int (2 : Int32))])) _
          refine XS.iand X81.here hx rfl (hb hby at_294) rfl ?_
          refine XS.ifYes X81.here hx rfl (pc0 := 295) (pc' := 307) rfl (hb hby at_295) rfl ((if0 _ _).trans (teq (rfl : (0 : Int32) = (0 : Int32))).1) (by decide) (by decide) ?_
          refine XS.iload X81.here hx rfl (hb hby at_307) rfl ?_
          show Steps _ _ _ (T81.setTop (mkF m 309 (Lq0 p1 p2 p3 p4 ucap us0 us1 us2 (kI 2) (kR b69) (kR b70) (kR r1_81) (kI 1) (kI 2) (kI 1) (kI 1)) [(.int (2 : Int32))])) _
          refine XS.iconst X81.here hx rfl (hb hby at_309) ?_
          refine XS.iand X81.here hx rfl (hb hby at_310) rfl ?_
          refine XS.ifNo X81.here hx rfl (hb hby at_311) rfl ((if0 _ _).trans (feq (by decide : ¬ ((2 : Int32) = (0 : Int32)))).1) ?_
          show Steps _ _ _ (T81.setTop (mkF m 314 (Lq0 p1 p2 p3 p4 ucap us0 us1 us2 (kI 2) (kR b69) (kR b70) (kR r1_81) (kI 1) (kI 2) (kI 1) (kI 1)) [])) _
          refine XS.lload X81.here hx rfl (hb hby at_314) rfl ?_
          refine XS.lconst X81.here hx rfl (hb hby at_316) ?_
          refine XS.lcmp X81.here hx rfl (hb hby at_317) rfl ?_
          show Steps _ _ _ (T81.setTop (mkF m 318 (Lq0 p1 p2 p3 p4 ucap us0 us1 us2 (kI 2) (kR b69) (kR b70) (kR r1_81) (kI 1) (kI 2) (kI 1) (kI 1)) [(.int (lcmpW (p3.toInt64) (0 : Int64)))])) _
          refine XS.ifYes X81.here hx rfl (pc0 := 318) (pc' := 323) rfl (hb hby at_318) rfl ((if0 _ _).trans (tlt hc103).2.2.1) (by decide) (by decide) ?_
          refine XS.iload X81.here hx rfl (hb hby at_323) rfl ?_
          refine XS.iconst X81.here hx rfl (hb hby at_325) ?_
          show Steps _ _ _ (T81.setTop (mkF m 326 (Lq0 p1 p2 p3 p4 ucap us0 us1 us2 (kI 2) (kR b69) (kR b70) (kR r1_81) (kI 1) (kI 2) (kI 1) (kI 1)) [(.int (4 : Int32)), (.int (2 : Int32))])) _
          refine XS.iand X81.here hx rfl (hb hby at_326) rfl ?_
          refine XS.ifYes X81.here hx rfl (pc0 := 327) (pc' := 339) rfl (hb hby at_327) rfl ((if0 _ _).trans (teq (rfl : (0 : Int32) = (0 : Int32))).1) (by decide) (by decide) ?_
          exact k)
        have he105 := own_end_2_2 hcapL hsL0 hsL1 hsL2 (own_vrL p2) (own_vrL p3) (own_vrL p4) hg
        exact jn2 (T81, _, _, (2 : Int32), b69, b70, r1_81, (1 : Int32), (2 : Int32), (1 : Int32), .val (.int (1 : Int32))) ⟨he105.1, he105.2, (Or.inr (Or.inl ⟨_, rfl⟩)), (X81.more (by decide) (by decide)), rfl, N81, K85, fun t k => pre104 t k⟩
      · have Vr106 : AV Z T81.heap r1_81 .int (2 : Int32) [(.int (0 : Int32)), (.int (1 : Int32))] := by have q := P81_0; rw [hz, hvs] at q; exact q
        obtain ⟨cl107, A107, S107, Nl107, M107⟩ := id Vr106
        obtain ⟨cl108, A108, S108, Nl108, M108⟩ := id Vr106
        obtain ⟨cl109, A109, S109, Nl109, M109⟩ := id Vr106
        have hin109 : ¬ ((0 : Int32) < 0 ∨ cl109.slots.size ≤ ((0 : Int32)).toNatClampNeg) := AV.inb S109 Nl109 ⟨by decide, by decide⟩
        have hat109 : cl109.slots[((0 : Int32)).toNatClampNeg]? = some (.int (0 : Int32)) := AV.at S109 rfl
        obtain ⟨cl110, A110, S110, Nl110, M110⟩ := id Vr106
        have hin110 : ¬ ((1 : Int32) < 0 ∨ cl110.slots.size ≤ ((1 : Int32)).toNatClampNeg) := AV.inb S110 Nl110 ⟨by decide, by decide⟩
        have hat110 : cl110.slots[((1 : Int32)).toNatClampNeg]? = some (.int (1 : Int32)) := AV.at S110 rfl
        have hc111 : (0 : Int32) < (lcmpW (p2.toInt64) (0 : Int64)) := by exact own_gt.mpr (Int64.lt_iff_toInt_lt.mpr (hg.1 rfl))
        have hc112 : (0 : Int32) < (lcmpW (p3.toInt64) (0 : Int64)) := by exact own_gt.mpr (Int64.lt_iff_toInt_lt.mpr (hg.2.1 rfl))
        have pre113 : ∀ t, Steps p.tables e below (T81.setTop (mkF m 339 (Lq0 p1 p2 p3 p4 ucap us0 us1 us2 (kI 2) (kR b69) (kR b70) (kR r1_81) (kI 2) (kI 3) (kI 1) (kI 1)) [])) t → Steps p.tables e below (s₁.setTop (entryFrame m #[(.int p1), (.int p2), (.int p3), (.int p4)] maxLocals)) t := fun t k => pre86 t (by
          show Steps _ _ _ (T81.setTop (mkF m 141 (Lq0 p1 p2 p3 p4 ucap us0 us1 us2 (kI 2) (kR b69) (kR b70) kU kU kU kU kU) [(.ref r1_81)])) _
          refine XS.astore X81.here hx rfl (hb hby at_141) rfl rfl (l' := (Lq0 p1 p2 p3 p4 ucap us0 us1 us2 (kI 2) (kR b69) (kR b70) (kR r1_81) kU kU kU kU)) rfl ?_
          show Steps _ _ _ (T81.setTop (mkF m 143 (Lq0 p1 p2 p3 p4 ucap us0 us1 us2 (kI 2) (kR b69) (kR b70) (kR r1_81) kU kU kU kU) [])) _
          refine XS.aload X81.here hx rfl (hb hby at_143) rfl rfl ?_
          refine XS.ifnullNo X81.here hx rfl (hb hby at_145) rfl ?_
          refine XS.aload X81.here hx rfl (hb hby at_148) rfl rfl ?_
          refine X81.arraylength hx (by exact A107.1) (State.isArrayOf_alike hZ.alike A107.2.1) (g := (mkF m 150 (Lq0 p1 p2 p3 p4 ucap us0 us1 us2 (kI 2) (kR b69) (kR b70) (kR r1_81) kU kU kU kU) [(.ref r1_81)])) rfl rfl (hb hby at_150) _ ?_
          rw [AV.len S107 Nl107 M107]
          show Steps _ _ _ (T81.setTop (mkF m 151 (Lq0 p1 p2 p3 p4 ucap us0 us1 us2 (kI 2) (kR b69) (kR b70) (kR r1_81) kU kU kU kU) [(.int (2 : Int32))])) _
          refine XS.iload X81.here hx rfl (hb hby at_151) rfl ?_
          refine XS.icmpYes X81.here hx rfl (pc0 := 153) (pc' := 158) rfl (hb hby at_153) rfl (flt (by decide : ¬ ((2 : Int32) < (2 : Int32)))).2.2.2 (by decide) (by decide) ?_
          refine XS.aload X81.here hx rfl (hb hby at_158) rfl rfl ?_
          refine X81.arraylength hx (by exact A108.1) (State.isArrayOf_alike hZ.alike A108.2.1) (g := (mkF m 160 (Lq0 p1 p2 p3 p4 ucap us0 us1 us2 (kI 2) (kR b69) (kR b70) (kR r1_81) kU kU kU kU) [(.ref r1_81)])) rfl rfl (hb hby at_160) _ ?_
          rw [AV.len S108 Nl108 M108]
          show Steps _ _ _ (T81.setTop (mkF m 161 (Lq0 p1 p2 p3 p4 ucap us0 us1 us2 (kI 2) (kR b69) (kR b70) (kR r1_81) kU kU kU kU) [(.int (2 : Int32))])) _
          refine XS.istore X81.here hx rfl (hb hby at_161) rfl (l' := (Lq0 p1 p2 p3 p4 ucap us0 us1 us2 (kI 2) (kR b69) (kR b70) (kR r1_81) (kI 2) kU kU kU)) rfl ?_
          refine XS.iconst X81.here hx rfl (hb hby at_163) ?_
          refine XS.istore X81.here hx rfl (hb hby at_164) rfl (l' := (Lq0 p1 p2 p3 p4 ucap us0 us1 us2 (kI 2) (kR b69) (kR b70) (kR r1_81) (kI 2) (kI 0) kU kU)) rfl ?_
          show Steps _ _ _ (T81.setTop (mkF m 166 (Lq0 p1 p2 p3 p4 ucap us0 us1 us2 (kI 2) (kR b69) (kR b70) (kR r1_81) (kI 2) (kI 0) kU kU) [])) _
          refine XS.iconst X81.here hx rfl (hb hby at_166) ?_
          refine XS.istore X81.here hx rfl (hb hby at_167) rfl (l' := (Lq0 p1 p2 p3 p4 ucap us0 us1 us2 (kI 2) (kR b69) (kR b70) (kR r1_81) (kI 2) (kI 0) (kI (-1)) kU)) rfl ?_
          refine XS.iload X81.here hx rfl (hb hby at_169) rfl ?_
          show Steps _ _ _ (T81.setTop (mkF m 171 (Lq0 p1 p2 p3 p4 ucap us0 us1 us2 (kI 2) (kR b69) (kR b70) (kR r1_81) (kI 2) (kI 0) (kI (-1)) kU) [(.int (2 : Int32))])) _
          refine XS.ifNo X81.here hx rfl (hb hby at_171) rfl ((if0 _ _).trans (tlt (by decide : (0 : Int32) < (2 : Int32))).2.2.2) ?_
          refine XS.aload X81.here hx rfl (hb hby at_174) rfl rfl ?_
          refine XS.iconst X81.here hx rfl (hb hby at_176) ?_
          refine X81.iaload hx (j := (0 : Int32)) (v := (.int (0 : Int32))) (by exact A109.1) (State.isArrayOf_alike hZ.alike A109.2.1) A109.2.2 hin109 hat109 (g := (mkF m 177 (Lq0 p1 p2 p3 p4 ucap us0 us1 us2 (kI 2) (kR b69) (kR b70) (kR r1_81) (kI 2) (kI 0) (kI (-1)) kU) [(.int (0 : Int32)), (.ref r1_81)])) rfl rfl (hb hby at_177) _ ?_
          show Steps _ _ _ (T81.setTop (mkF m 178 (Lq0 p1 p2 p3 p4 ucap us0 us1 us2 (kI 2) (kR b69) (kR b70) (kR r1_81) (kI 2) (kI 0) (kI (-1)) kU) [(.int (0 : Int32))])) _
          refine XS.istore X81.here hx rfl (hb hby at_178) rfl (l' := (Lq0 p1 p2 p3 p4 ucap us0 us1 us2 (kI 2) (kR b69) (kR b70) (kR r1_81) (kI 2) (kI 0) (kI (-1)) (kI 0))) rfl ?_
          refine XS.iload X81.here hx rfl (hb hby at_180) rfl ?_
          refine XS.iload X81.here hx rfl (hb hby at_182) rfl ?_
          show Steps _ _ _ (T81.setTop (mkF m 184 (Lq0 p1 p2 p3 p4 ucap us0 us1 us2 (kI 2) (kR b69) (kR b70) (kR r1_81) (kI 2) (kI 0) (kI (-1)) (kI 0)) [(.int (-1 : Int32)), (.int (0 : Int32))])) _
          refine XS.icmpNo X81.here hx rfl (hb hby at_184) rfl (tlt (by decide : (-1 : Int32) < (0 : Int32))).2.2.2 ?_
          refine XS.iload X81.here hx rfl (hb hby at_187) rfl ?_
          refine XS.iload X81.here hx rfl (hb hby at_189) rfl ?_
          show Steps _ _ _ (T81.setTop (mkF m 191 (Lq0 p1 p2 p3 p4 ucap us0 us1 us2 (kI 2) (kR b69) (kR b70) (kR r1_81) (kI 2) (kI 0) (kI (-1)) (kI 0)) [(.int (2 : Int32)), (.int (0 : Int32))])) _
          refine XS.icmpYes X81.here hx rfl (pc0 := 191) (pc' := 196) rfl (hb hby at_191) rfl (tlt (by decide : (0 : Int32) < (2 : Int32))).1 (by decide) (by decide) ?_
          refine XS.iload X81.here hx rfl (hb hby at_196) rfl ?_
          refine XS.iconst X81.here hx rfl (hb hby at_198) ?_
          show Steps _ _ _ (T81.setTop (mkF m 199 (Lq0 p1 p2 p3 p4 ucap us0 us1 us2 (kI 2) (kR b69) (kR b70) (kR r1_81) (kI 2) (kI 0) (kI (-1)) (kI 0)) [(.int (1 : Int32)), (.int (0 : Int32))])) _
          refine XS.iload X81.here hx rfl (hb hby at_199) rfl ?_
          refine XS.ishl X81.here hx rfl (hb hby at_201) rfl ?_
          refine XS.ior X81.here hx rfl (hb hby at_202) rfl ?_
          show Steps _ _ _ (T81.setTop (mkF m 203 (Lq0 p1 p2 p3 p4 ucap us0 us1 us2 (kI 2) (kR b69) (kR b70) (kR r1_81) (kI 2) (kI 0) (kI (-1)) (kI 0)) [(.int (1 : Int32))])) _
          refine XS.istore X81.here hx rfl (hb hby at_203) rfl (l' := (Lq0 p1 p2 p3 p4 ucap us0 us1 us2 (kI 2) (kR b69) (kR b70) (kR r1_81) (kI 2) (kI 1) (kI (-1)) (kI 0))) rfl ?_
          refine XS.iload X81.here hx rfl (hb hby at_205) rfl ?_
          refine XS.istore X81.here hx rfl (hb hby at_207) rfl (l' := (Lq0 p1 p2 p3 p4 ucap us0 us1 us2 (kI 2) (kR b69) (kR b70) (kR r1_81) (kI 2) (kI 1) (kI 0) (kI 0))) rfl ?_
          show Steps _ _ _ (T81.setTop (mkF m 209 (Lq0 p1 p2 p3 p4 ucap us0 us1 us2 (kI 2) (kR b69) (kR b70) (kR r1_81) (kI 2) (kI 1) (kI 0) (kI 0)) [])) _
          refine XS.iload X81.here hx rfl (hb hby at_209) rfl ?_
          refine XS.iconst X81.here hx rfl (hb hby at_211) ?_
          refine XS.icmpNo X81.here hx rfl (hb hby at_212) rfl (tlt (by decide : (1 : Int32) < (2 : Int32))).2.2.2 ?_
          show Steps _ _ _ (T81.setTop (mkF m 215 (Lq0 p1 p2 p3 p4 ucap us0 us1 us2 (kI 2) (kR b69) (kR b70) (kR r1_81) (kI 2) (kI 1) (kI 0) (kI 0)) [])) _
          refine XS.aload X81.here hx rfl (hb hby at_215) rfl rfl ?_
          refine XS.iconst X81.here hx rfl (hb hby at_217) ?_
          refine X81.iaload hx (j := (1 : Int32)) (v := (.int (1 : Int32))) (by exact A110.1) (State.isArrayOf_alike hZ.alike A110.2.1) A110.2.2 hin110 hat110 (g := (mkF m 218 (Lq0 p1 p2 p3 p4 ucap us0 us1 us2 (kI 2) (kR b69) (kR b70) (kR r1_81) (kI 2) (kI 1) (kI 0) (kI 0)) [(.int (1 : Int32)), (.ref r1_81)])) rfl rfl (hb hby at_218) _ ?_
          refine XS.istore X81.here hx rfl (hb hby at_219) rfl (l' := (Lq0 p1 p2 p3 p4 ucap us0 us1 us2 (kI 2) (kR b69) (kR b70) (kR r1_81) (kI 2) (kI 1) (kI 0) (kI 1))) rfl ?_
          show Steps _ _ _ (T81.setTop (mkF m 221 (Lq0 p1 p2 p3 p4 ucap us0 us1 us2 (kI 2) (kR b69) (kR b70) (kR r1_81) (kI 2) (kI 1) (kI 0) (kI 1)) [])) _
          refine XS.iload X81.here hx rfl (hb hby at_221) rfl ?_
          refine XS.iload X81.here hx rfl (hb hby at_223) rfl ?_
          refine XS.icmpNo X81.here hx rfl (hb hby at_225) rfl (tlt (by decide : (0 : Int32) < (1 : Int32))).2.2.2 ?_
          show Steps _ _ _ (T81.setTop (mkF m 228 (Lq0 p1 p2 p3 p4 ucap us0 us1 us2 (kI 2) (kR b69) (kR b70) (kR r1_81) (kI 2) (kI 1) (kI 0) (kI 1)) [])) _
          refine XS.iload X81.here hx rfl (hb hby at_228) rfl ?_
          refine XS.iload X81.here hx rfl (hb hby at_230) rfl ?_
          refine XS.icmpYes X81.here hx rfl (pc0 := 232) (pc' := 237) rfl (hb hby at_232) rfl (tlt (by decide : (1 : Int32) < (2 : Int32))).1 (by decide) (by decide) ?_
          show Steps _ _ _ (T81.setTop (mkF m 237 (Lq0 p1 p2 p3 p4 ucap us0 us1 us2 (kI 2) (kR b69) (kR b70) (kR r1_81) (kI 2) (kI 1) (kI 0) (kI 1)) [])) _
          refine XS.iload X81.here hx rfl (hb hby at_237) rfl ?_
          refine XS.iconst X81.here hx rfl (hb hby at_239) ?_
          refine XS.iload X81.here hx rfl (hb hby at_240) rfl ?_
          show Steps _ _ _ (T81.setTop (mkF m 242 (Lq0 p1 p2 p3 p4 ucap us0 us1 us2 (kI 2) (kR b69) (kR b70) (kR r1_81) (kI 2) (kI 1) (kI 0) (kI 1)) [(.int (1 : Int32)), (.int (1 : Int32)), (.int (1 : Int32))])) _
          refine XS.ishl X81.here hx rfl (hb hby at_242) rfl ?_
          refine XS.ior X81.here hx rfl (hb hby at_243) rfl ?_
          refine XS.istore X81.here hx rfl (hb hby at_244) rfl (l' := (Lq0 p1 p2 p3 p4 ucap us0 us1 us2 (kI 2) (kR b69) (kR b70) (kR r1_81) (kI 2) (kI 3) (kI 0) (kI 1))) rfl ?_
          show Steps _ _ _ (T81.setTop (mkF m 246 (Lq0 p1 p2 p3 p4 ucap us0 us1 us2 (kI 2) (kR b69) (kR b70) (kR r1_81) (kI 2) (kI 3) (kI 0) (kI 1)) [])) _
          refine XS.iload X81.here hx rfl (hb hby at_246) rfl ?_
          refine XS.istore X81.here hx rfl (hb hby at_248) rfl (l' := (Lq0 p1 p2 p3 p4 ucap us0 us1 us2 (kI 2) (kR b69) (kR b70) (kR r1_81) (kI 2) (kI 3) (kI 1) (kI 1))) rfl ?_
          refine XS.iload X81.here hx rfl (hb hby at_250) rfl ?_
          show Steps _ _ _ (T81.setTop (mkF m 252 (Lq0 p1 p2 p3 p4 ucap us0 us1 us2 (kI 2) (kR b69) (kR b70) (kR r1_81) (kI 2) (kI 3) (kI 1) (kI 1)) [(.int (2 : Int32))])) _
          refine XS.iconst X81.here hx rfl (hb hby at_252) ?_
          refine XS.icmpYes X81.here hx rfl (pc0 := 253) (pc' := 291) rfl (hb hby at_253) rfl (flt (by decide : ¬ ((2 : Int32) < (2 : Int32)))).2.2.2 (by decide) (by decide) ?_
          refine XS.iload X81.here hx rfl (hb hby at_291) rfl ?_
          show Steps _ _ _ (T81.setTop (mkF m 293 (Lq0 p1 p2 p3 p4 ucap us0 us1 us2 (kI 2) (kR b69) (kR b70) (kR r1_81) (kI 2) (kI 3) (kI 1) (kI 1)) [(.int (3 : Int32))])) _
          refine XS.iconst X81.here hx rfl (hb hby at_293) ?_
          refine XS.iand X81.here hx rfl (hb hby at_294) rfl ?_
          refine XS.ifNo X81.here hx rfl (hb hby at_295) rfl ((if0 _ _).trans (feq (by decide : ¬ ((1 : Int32) = (0 : Int32)))).1) ?_
          show Steps _ _ _ (T81.setTop (mkF m 298 (Lq0 p1 p2 p3 p4 ucap us0 us1 us2 (kI 2) (kR b69) (kR b70) (kR r1_81) (kI 2) (kI 3) (kI 1) (kI 1)) [])) _
          refine XS.lload X81.here hx rfl (hb hby at_298) rfl ?_
          refine XS.lconst X81.here hx rfl (hb hby at_300) ?_
          refine XS.lcmp X81.here hx rfl (hb hby at_301) rfl ?_
          show Steps _ _ _ (T81.setTop (mkF m 302 (Lq0 p1 p2 p3 p4 ucap us0 us1 us2 (kI 2) (kR b69) (kR b70) (kR r1_81) (kI 2) (kI 3) (kI 1) (kI 1)) [(.int (lcmpW (p2.toInt64) (0 : Int64)))])) _
          refine XS.ifYes X81.here hx rfl (pc0 := 302) (pc' := 307) rfl (hb hby at_302) rfl ((if0 _ _).trans (tlt hc111).2.2.1) (by decide) (by decide) ?_
          refine XS.iload X81.here hx rfl (hb hby at_307) rfl ?_
          refine XS.iconst X81.here hx rfl (hb hby at_309) ?_
          show Steps _ _ _ (T81.setTop (mkF m 310 (Lq0 p1 p2 p3 p4 ucap us0 us1 us2 (kI 2) (kR b69) (kR b70) (kR r1_81) (kI 2) (kI 3) (kI 1) (kI 1)) [(.int (2 : Int32)), (.int (3 : Int32))])) _
          refine XS.iand X81.here hx rfl (hb hby at_310) rfl ?_
          refine XS.ifNo X81.here hx rfl (hb hby at_311) rfl ((if0 _ _).trans (feq (by decide : ¬ ((2 : Int32) = (0 : Int32)))).1) ?_
          refine XS.lload X81.here hx rfl (hb hby at_314) rfl ?_
          show Steps _ _ _ (T81.setTop (mkF m 316 (Lq0 p1 p2 p3 p4 ucap us0 us1 us2 (kI 2) (kR b69) (kR b70) (kR r1_81) (kI 2) (kI 3) (kI 1) (kI 1)) [(.long (p3.toInt64))])) _
          refine XS.lconst X81.here hx rfl (hb hby at_316) ?_
          refine XS.lcmp X81.here hx rfl (hb hby at_317) rfl ?_
          refine XS.ifYes X81.here hx rfl (pc0 := 318) (pc' := 323) rfl (hb hby at_318) rfl ((if0 _ _).trans (tlt hc112).2.2.1) (by decide) (by decide) ?_
          show Steps _ _ _ (T81.setTop (mkF m 323 (Lq0 p1 p2 p3 p4 ucap us0 us1 us2 (kI 2) (kR b69) (kR b70) (kR r1_81) (kI 2) (kI 3) (kI 1) (kI 1)) [])) _
          refine XS.iload X81.here hx rfl (hb hby at_323) rfl ?_
          refine XS.iconst X81.here hx rfl (hb hby at_325) ?_
          refine XS.iand X81.here hx rfl (hb hby at_326) rfl ?_
          show Steps _ _ _ (T81.setTop (mkF m 327 (Lq0 p1 p2 p3 p4 ucap us0 us1 us2 (kI 2) (kR b69) (kR b70) (kR r1_81) (kI 2) (kI 3) (kI 1) (kI 1)) [(.int (0 : Int32))])) _
          refine XS.ifYes X81.here hx rfl (pc0 := 327) (pc' := 339) rfl (hb hby at_327) rfl ((if0 _ _).trans (teq (rfl : (0 : Int32) = (0 : Int32))).1) (by decide) (by decide) ?_
          exact k)
        have he114 := own_end_2_3 hcapL hsL0 hsL1 hsL2 (own_vrL p2) (own_vrL p3) (own_vrL p4) hg
        exact jn2 (T81, _, _, (2 : Int32), b69, b70, r1_81, (2 : Int32), (3 : Int32), (1 : Int32), .val (.int (1 : Int32))) ⟨he114.1, he114.2, (Or.inr (Or.inl ⟨_, rfl⟩)), (X81.more (by decide) (by decide)), rfl, N81, K85, fun t k => pre113 t k⟩
    · have pre115 : ∀ t, Steps p.tables e below (s₁.setTop (mkF m 67 (Lq0 p1 p2 p3 p4 ucap us0 us1 us2 (kI 3) kU kU kU kU kU kU kU) [])) t → Steps p.tables e below (s₁.setTop (entryFrame m #[(.int p1), (.int p2), (.int p3), (.int p4)] maxLocals)) t := fun t k => preG t (by
        show Steps _ _ _ (s₁.setTop (mkF m 67 (Lq0 p1 p2 p3 p4 ucap us0 us1 us2 (kI un0) kU kU kU kU kU kU kU) [])) _
        rw [hk24]
        exact k)
      obtain ⟨T116, h116, k116, X116, e116, E116, A116, st116⟩ := newP X0 hx hZ (hw _ (List.mem_of_getElem? (i := 0) rfl)) e0 (g := (mkF m 69 (Lq0 p1 p2 p3 p4 ucap us0 us1 us2 (kI 3) kU kU kU kU kU kU kU) [(.int (3 : Int32))])) rfl (hb hby at_69) rfl (by decide) (cap := 3) (by decide) (by decide) (by decide) (by decide)
      obtain ⟨b116, g116⟩ : ∃ z, z = h0.size := ⟨_, rfl⟩
      rw [← g116] at A116 st116
      have g_b116 : n0 ≤ b116 := Nat.le_trans Z0 (Nat.le_of_eq g116.symm)
      have sz_b116 : h0.size ≤ b116 := Nat.le_trans (Keep.refl h0 []).1 (Nat.le_of_eq g116.symm)
      have K116 : Keep h0 h116 [] := (Keep.refl h0 []).ext E116
      have V_b116 : AV Z h116 b116 .int (3 : Int32) [(.int (0 : Int32)), (.int (0 : Int32)), (.int (0 : Int32))] := AV.new A116 (by decide)
      obtain ⟨T117, h117, k117, X117, e117, E117, A117, st117⟩ := newP X116 hx hZ (hw _ (List.mem_of_getElem? (i := 1) rfl)) e116 (g := (mkF m 75 (Lq0 p1 p2 p3 p4 ucap us0 us1 us2 (kI 3) (kR b116) kU kU kU kU kU kU) [(.int (3 : Int32))])) rfl (hb hby at_75) rfl (by decide) (cap := 3) (by decide) (by decide) (by decide) (by decide)
      obtain ⟨b117, g117⟩ : ∃ z, z = h116.size := ⟨_, rfl⟩
      rw [← g117] at A117 st117
      have ne118 : b116 ≠ b117 := Nat.ne_of_lt (Nat.lt_of_lt_of_le V_b116.lt (Nat.le_of_eq g117.symm))
      have g_b117 : n0 ≤ b117 := Nat.le_trans (Nat.le_trans Z0 K116.1) (Nat.le_of_eq g117.symm)
      have sz_b117 : h0.size ≤ b117 := Nat.le_trans K116.1 (Nat.le_of_eq g117.symm)
      have K117 : Keep h0 h117 [] := K116.ext E117
      have V_b117 : AV Z h117 b117 .long (3 : Int32) [(.long (0 : Int64)), (.long (0 : Int64)), (.long (0 : Int64))] := AV.new A117 (by decide)
      have F120 := (V_b116.ext E117)
      obtain ⟨cl119, A119, S119, Nl119, M119⟩ := id F120
      have hin119 : ¬ ((0 : Int32) < 0 ∨ cl119.slots.size ≤ ((0 : Int32)).toNatClampNeg) := AV.inb S119 Nl119 ⟨by decide, by decide⟩
      obtain ⟨T119, h119, X119, e119, W119, st119⟩ := stI X117 hx hZ e117 A119 (j := (0 : Int32)) hin119 (g := (mkF m 89 (Lq0 p1 p2 p3 p4 ucap us0 us1 us2 (kI 3) (kR b116) (kR b117) kU kU kU kU kU) [(.int us0), (.int (0 : Int32)), (.ref b116)])) rfl rfl (hb hby at_89)
      have V119 : AV Z h119 b116 .int (3 : Int32) [(.int us0), (.int (0 : Int32)), (.int (0 : Int32))] := AV.set A119 S119 Nl119 M119 W119
      have K119 : Keep h0 h119 [] := K117.wr W119 (Or.inr sz_b116)
      have N119 := Fr.snoc X119 N0 g_b116
      have F122 := (V_b117.other W119 (Ne.symm ne118))
      obtain ⟨cl121, A121, S121, Nl121, M121⟩ := id F122
      have hin121 : ¬ ((0 : Int32) < 0 ∨ cl121.slots.size ≤ ((0 : Int32)).toNatClampNeg) := AV.inb S121 Nl121 ⟨by decide, by decide⟩
      obtain ⟨T121, h121, X121, e121, W121, st121⟩ := stJ X119 hx hZ e119 A121 (j := (0 : Int32)) hin121 (g := (mkF m 95 (Lq0 p1 p2 p3 p4 ucap us0 us1 us2 (kI 3) (kR b116) (kR b117) kU kU kU kU kU) [(.long (p2.toInt64)), (.int (0 : Int32)), (.ref b117)])) rfl rfl (hb hby at_95)
      have V121 : AV Z h121 b117 .long (3 : Int32) [(.long (p2.toInt64)), (.long (0 : Int64)), (.long (0 : Int64))] := AV.set A121 S121 Nl121 M121 W121
      have K121 : Keep h0 h121 [] := K119.wr W121 (Or.inr sz_b117)
      have N121 := Fr.snoc X121 N119 g_b117
      have F124 := (V119.other W121 ne118)
      obtain ⟨cl123, A123, S123, Nl123, M123⟩ := id F124
      have hin123 : ¬ ((1 : Int32) < 0 ∨ cl123.slots.size ≤ ((1 : Int32)).toNatClampNeg) := AV.inb S123 Nl123 ⟨by decide, by decide⟩
      obtain ⟨T123, h123, X123, e123, W123, st123⟩ := stI X121 hx hZ e121 A123 (j := (1 : Int32)) hin123 (g := (mkF m 107 (Lq0 p1 p2 p3 p4 ucap us0 us1 us2 (kI 3) (kR b116) (kR b117) kU kU kU kU kU) [(.int us1), (.int (1 : Int32)), (.ref b116)])) rfl rfl (hb hby at_107)
      have V123 : AV Z h123 b116 .int (3 : Int32) [(.int us0), (.int us1), (.int (0 : Int32))] := AV.set A123 S123 Nl123 M123 W123
      have K123 : Keep h0 h123 [] := K121.wr W123 (Or.inr sz_b116)
      have N123 := Fr.snoc X123 N121 g_b116
      have F126 := (V121.other W123 (Ne.symm ne118))
      obtain ⟨cl125, A125, S125, Nl125, M125⟩ := id F126
      have hin125 : ¬ ((1 : Int32) < 0 ∨ cl125.slots.size ≤ ((1 : Int32)).toNatClampNeg) := AV.inb S125 Nl125 ⟨by decide, by decide⟩
      obtain ⟨T125, h125, X125, e125, W125, st125⟩ := stJ X123 hx hZ e123 A125 (j := (1 : Int32)) hin125 (g := (mkF m 113 (Lq0 p1 p2 p3 p4 ucap us0 us1 us2 (kI 3) (kR b116) (kR b117) kU kU kU kU kU) [(.long (p3.toInt64)), (.int (1 : Int32)), (.ref b117)])) rfl rfl (hb hby at_113)
      have V125 : AV Z h125 b117 .long (3 : Int32) [(.long (p2.toInt64)), (.long (p3.toInt64)), (.long (0 : Int64))] := AV.set A125 S125 Nl125 M125 W125
      have K125 : Keep h0 h125 [] := K123.wr W125 (Or.inr sz_b117)
      have N125 := Fr.snoc X125 N123 g_b117
      have F128 := (V123.other W125 ne118)
      obtain ⟨cl127, A127, S127, Nl127, M127⟩ := id F128
      have hin127 : ¬ ((2 : Int32) < 0 ∨ cl127.slots.size ≤ ((2 : Int32)).toNatClampNeg) := AV.inb S127 Nl127 ⟨by decide, by decide⟩
      obtain ⟨T127, h127, X127, e127, W127, st127⟩ := stI X125 hx hZ e125 A127 (j := (2 : Int32)) hin127 (g := (mkF m 125 (Lq0 p1 p2 p3 p4 ucap us0 us1 us2 (kI 3) (kR b116) (kR b117) kU kU kU kU kU) [(.int us2), (.int (2 : Int32)), (.ref b116)])) rfl rfl (hb hby at_125)
      have V127 : AV Z h127 b116 .int (3 : Int32) [(.int us0), (.int us1), (.int us2)] := AV.set A127 S127 Nl127 M127 W127
      have K127 : Keep h0 h127 [] := K125.wr W127 (Or.inr sz_b116)
      have N127 := Fr.snoc X127 N125 g_b116
      have F130 := (V125.other W127 (Ne.symm ne118))
      obtain ⟨cl129, A129, S129, Nl129, M129⟩ := id F130
      have hin129 : ¬ ((2 : Int32) < 0 ∨ cl129.slots.size ≤ ((2 : Int32)).toNatClampNeg) := AV.inb S129 Nl129 ⟨by decide, by decide⟩
      obtain ⟨T129, h129, X129, e129, W129, st129⟩ := stJ X127 hx hZ e127 A129 (j := (2 : Int32)) hin129 (g := (mkF m 131 (Lq0 p1 p2 p3 p4 ucap us0 us1 us2 (kI 3) (kR b116) (kR b117) kU kU kU kU kU) [(.long (p4.toInt64)), (.int (2 : Int32)), (.ref b117)])) rfl rfl (hb hby at_131)
      have V129 : AV Z h129 b117 .long (3 : Int32) [(.long (p2.toInt64)), (.long (p3.toInt64)), (.long (p4.toInt64))] := AV.set A129 S129 Nl129 M129 W129
      have K129 : Keep h0 h129 [] := K127.wr W129 (Or.inr sz_b117)
      have N129 := Fr.snoc X129 N127 g_b117
      have F131 := (V127.other W129 ne118)
      obtain ⟨_, _, ⟨T132, L132, k132, n132⟩, -, X132, ⟨Lc132, hQ132, l132, y132, z132⟩, st132⟩ := Jvm.LawKit.callS X129 hx (y := (⟨"com/example/hindsight/hindsight/solvers/Knapsack", "heaviest", "([I[JI)[I"⟩ : MethodName)) hown (mvT hZ (hw _ (List.mem_of_getElem? (i := 2) rfl))) (mvT hZ (hw _ (List.mem_of_getElem? (i := 3) rfl))) (mvT hZ (hw _ (List.mem_of_getElem? (i := 4) rfl))) (mvT hZ (hw _ (List.mem_of_getElem? (i := 5) rfl))) (by decide) (backOf (W := 0) (rm1n3 l Z a0 hw [] b116 b117 ucap us0 us1 us2 (p2.toInt64) (p3.toInt64) (p4.toInt64) h129 n0 (Nat.le_trans Z0 K129.1) F131 V129 (hcapL) (hsL0) (hsL1) (hsL2) (own_vrL p2) (own_vrL p3) (own_vrL p4)) hZ (hw _ (List.mem_of_getElem? (i := 5) rfl)) (hw _ (List.mem_of_getElem? (i := 4) rfl)) (by decide) (by decide)) (g := (mkF m 138 (Lq0 p1 p2 p3 p4 ucap us0 us1 us2 (kI 3) (kR b116) (kR b117) kU kU kU kU kU) [(.int ucap), (.ref b117), (.ref b116)])) rfl (by rw [hml]; rfl) (argsL := [(.ref b116), (.ref b117), (.int ucap)]) (rest := []) (lenOf pd_4 rfl) rfl (by show 2 * 0 + _ ≤ _; exact Nat.le_of_eq rfl) (hb hby at_138) (fun _ _ => ⟨rfl, e129, (by decide : 2 + 7 ≤ _), (by decide : 6 + 73 ≤ _)⟩)
      dsimp only [Pt.U, Pt.locs, Pt.cells, Pt.slots] at X132 l132 y132 z132 st132 hQ132
      first | rw [l132, y132, z132] at X132 | subst l132 y132 z132
      obtain ⟨r1_132, zr_132, vr_132, rfl, N132q, K132, g_r1_132, sz_r1_132, P132_0, P132_1⟩ := hQ132
      have ne133 : b116 ≠ r1_132 := Nat.ne_of_lt (Nat.lt_of_lt_of_le F131.lt sz_r1_132)
      have ne134 : b117 ≠ r1_132 := Nat.ne_of_lt (Nat.lt_of_lt_of_le V129.lt sz_r1_132)
      have sz135 : h0.size ≤ r1_132 := Nat.le_trans K129.1 sz_r1_132
      have K136 : Keep h0 T132.heap [] := K129.trans K132 all0
      have N132 := Fr.app N129 N132q
      have pre137 : ∀ t, Steps p.tables e below (T132.setTop (mkF m 141 (Lq0 p1 p2 p3 p4 ucap us0 us1 us2 (kI 3) (kR b116) (kR b117) kU kU kU kU kU) [(.ref r1_132)])) t → Steps p.tables e below (s₁.setTop (entryFrame m #[(.int p1), (.int p2), (.int p3), (.int p4)] maxLocals)) t := fun t k => pre115 t (by
        show Steps _ _ _ (s₁.setTop (mkF m 67 (Lq0 p1 p2 p3 p4 ucap us0 us1 us2 (kI 3) kU kU kU kU kU kU kU) [])) _
        refine XS.iload X0.here hx rfl (hb hby at_67) rfl ?_
        refine st116 _ ?_
        show Steps _ _ _ (T116.setTop (mkF m 71 (Lq0 p1 p2 p3 p4 ucap us0 us1 us2 (kI 3) kU kU kU kU kU kU kU) [(.ref b116)])) _
        refine XS.astore X116.here hx rfl (hb hby at_71) rfl rfl (l' := (Lq0 p1 p2 p3 p4 ucap us0 us1 us2 (kI 3) (kR b116) kU kU kU kU kU kU)) rfl ?_
        refine XS.iload X116.here hx rfl (hb hby at_73) rfl ?_
        refine st117 _ ?_
        refine XS.astore X117.here hx rfl (hb hby at_77) rfl rfl (l' := (Lq0 p1 p2 p3 p4 ucap us0 us1 us2 (kI 3) (kR b116) (kR b117) kU kU kU kU kU)) rfl ?_
        show Steps _ _ _ (T117.setTop (mkF m 79 (Lq0 p1 p2 p3 p4 ucap us0 us1 us2 (kI 3) (kR b116) (kR b117) kU kU kU kU kU) [])) _
        refine XS.iload X117.here hx rfl (hb hby at_79) rfl ?_
        refine XS.ifNo X117.here hx rfl (hb hby at_81) rfl ((if0 _ _).trans (tlt (by decide : (0 : Int32) < (3 : Int32))).2.2.2) ?_
        refine XS.aload X117.here hx rfl (hb hby at_84) rfl rfl ?_
        show Steps _ _ _ (T117.setTop (mkF m 86 (Lq0 p1 p2 p3 p4 ucap us0 us1 us2 (kI 3) (kR b116) (kR b117) kU kU kU kU kU) [(.ref b116)])) _
        refine XS.iconst X117.here hx rfl (hb hby at_86) ?_
        refine XS.iload X117.here hx rfl (hb hby at_87) rfl ?_
        refine st119 _ ?_
        refine XS.aload X119.here hx rfl (hb hby at_90) rfl rfl ?_
        show Steps _ _ _ (T119.setTop (mkF m 92 (Lq0 p1 p2 p3 p4 ucap us0 us1 us2 (kI 3) (kR b116) (kR b117) kU kU kU kU kU) [(.ref b117)])) _
        refine XS.iconst X119.here hx rfl (hb hby at_92) ?_
        refine XS.lload X119.here hx rfl (hb hby at_93) rfl ?_
        refine st121 _ ?_
        refine XS.iload X121.here hx rfl (hb hby at_96) rfl ?_
        show Steps _ _ _ (T121.setTop (mkF m 98 (Lq0 p1 p2 p3 p4 ucap us0 us1 us2 (kI 3) (kR b116) (kR b117) kU kU kU kU kU) [(.int (3 : Int32))])) _
        refine XS.iconst X121.here hx rfl (hb hby at_98) ?_
        refine XS.icmpNo X121.here hx rfl (hb hby at_99) rfl (tlt (by decide : (1 : Int32) < (3 : Int32))).2.2.2 ?_
        refine XS.aload X121.here hx rfl (hb hby at_102) rfl rfl ?_
        show Steps _ _ _ (T121.setTop (mkF m 104 (Lq0 p1 p2 p3 p4 ucap us0 us1 us2 (kI 3) (kR b116) (kR b117) kU kU kU kU kU) [(.ref b116)])) _
        refine XS.iconst X121.here hx rfl (hb hby at_104) ?_
        refine XS.iload X121.here hx rfl (hb hby at_105) rfl ?_
        refine st123 _ ?_
        refine XS.aload X123.here hx rfl (hb hby at_108) rfl rfl ?_
        show Steps _ _ _ (T123.setTop (mkF m 110 (Lq0 p1 p2 p3 p4 ucap us0 us1 us2 (kI 3) (kR b116) (kR b117) kU kU kU kU kU) [(.ref b117)])) _
        refine XS.iconst X123.here hx rfl (hb hby at_110) ?_
        refine XS.lload X123.here hx rfl (hb hby at_111) rfl ?_
        refine st125 _ ?_
        refine XS.iload X125.here hx rfl (hb hby at_114) rfl ?_
        show Steps _ _ _ (T125.setTop (mkF m 116 (Lq0 p1 p2 p3 p4 ucap us0 us1 us2 (kI 3) (kR b116) (kR b117) kU kU kU kU kU) [(.int (3 : Int32))])) _
        refine XS.iconst X125.here hx rfl (hb hby at_116) ?_
        refine XS.icmpNo X125.here hx rfl (hb hby at_117) rfl (tlt (by decide : (2 : Int32) < (3 : Int32))).2.2.2 ?_
        refine XS.aload X125.here hx rfl (hb hby at_120) rfl rfl ?_
        show Steps _ _ _ (T125.setTop (mkF m 122 (Lq0 p1 p2 p3 p4 ucap us0 us1 us2 (kI 3) (kR b116) (kR b117) kU kU kU kU kU) [(.ref b116)])) _
        refine XS.iconst X125.here hx rfl (hb hby at_122) ?_
        refine XS.iload X125.here hx rfl (hb hby at_123) rfl ?_
        refine st127 _ ?_
        refine XS.aload X127.here hx rfl (hb hby at_126) rfl rfl ?_
        show Steps _ _ _ (T127.setTop (mkF m 128 (Lq0 p1 p2 p3 p4 ucap us0 us1 us2 (kI 3) (kR b116) (kR b117) kU kU kU kU kU) [(.ref b117)])) _
        refine XS.iconst X127.here hx rfl (hb hby at_128) ?_
        refine XS.lload X127.here hx rfl (hb hby at_129) rfl ?_
        refine st129 _ ?_
        refine XS.aload X129.here hx rfl (hb hby at_132) rfl rfl ?_
        show Steps _ _ _ (T129.setTop (mkF m 134 (Lq0 p1 p2 p3 p4 ucap us0 us1 us2 (kI 3) (kR b116) (kR b117) kU kU kU kU kU) [(.ref b116)])) _
        refine XS.aload X129.here hx rfl (hb hby at_134) rfl rfl ?_
        refine XS.iload X129.here hx rfl (hb hby at_136) rfl ?_
        show Steps _ _ _ (T129.setTop (mkF m 138 (Lq0 p1 p2 p3 p4 ucap us0 us1 us2 (kI 3) (kR b116) (kR b117) kU kU kU kU kU) [(.int ucap), (.ref b117), (.ref b116)])) _
        refine st132 _ ?_
        exact k)
      rcases P132_1 with ⟨hz, hvs, hg⟩ | ⟨hz, hvs, hg⟩ | ⟨hz, hvs, hg⟩ | ⟨hz, hvs, hg⟩ | ⟨hz, hvs, hg⟩ | ⟨hz, hvs, hg⟩ | ⟨hz, hvs, hg⟩ | ⟨hz, hvs, hg⟩
      · have Vr138 : AV Z T132.heap r1_132 .int (0 : Int32) [] := by have q := P132_0; rw [hz, hvs] at q; exact q
        obtain ⟨cl139, A139, S139, Nl139, M139⟩ := id Vr138
        obtain ⟨cl140, A140, S140, Nl140, M140⟩ := id Vr138
        have pre141 : ∀ t, Steps p.tables e below (T132.setTop (mkF m 339 (Lq0 p1 p2 p3 p4 ucap us0 us1 us2 (kI 3) (kR b116) (kR b117) (kR r1_132) (kI 0) (kI 0) (kI (-1)) kU) [])) t → Steps p.tables e below (s₁.setTop (entryFrame m #[(.int p1), (.int p2), (.int p3), (.int p4)] maxLocals)) t := fun t k => pre137 t (by
          show Steps _ _ _ (T132.setTop (mkF m 141 (Lq0 p1 p2 p3 p4 ucap us0 us1 us2 (kI 3) (kR b116) (kR b117) kU kU kU kU kU) [(.ref r1_132)])) _
          refine XS.astore X132.here hx rfl (hb hby at_141) rfl rfl (l' := (Lq0 p1 p2 p3 p4 ucap us0 us1 us2 (kI 3) (kR b116) (kR b117) (kR r1_132) kU kU kU kU)) rfl ?_
          show Steps _ _ _ (T132.setTop (mkF m 143 (Lq0 p1 p2 p3 p4 ucap us0 us1 us2 (kI 3) (kR b116) (kR b117) (kR r1_132) kU kU kU kU) [])) _
          refine XS.aload X132.here hx rfl (hb hby at_143) rfl rfl ?_
          refine XS.ifnullNo X132.here hx rfl (hb hby at_145) rfl ?_
          refine XS.aload X132.here hx rfl (hb hby at_148) rfl rfl ?_
          refine X132.arraylength hx (by exact A139.1) (State.isArrayOf_alike hZ.alike A139.2.1) (g := (mkF m 150 (Lq0 p1 p2 p3 p4 ucap us0 us1 us2 (kI 3) (kR b116) (kR b117) (kR r1_132) kU kU kU kU) [(.ref r1_132)])) rfl rfl (hb hby at_150) _ ?_
          rw [AV.len S139 Nl139 M139]
          show Steps _ _ _ (T132.setTop (mkF m 151 (Lq0 p1 p2 p3 p4 ucap us0 us1 us2 (kI 3) (kR b116) (kR b117) (kR r1_132) kU kU kU kU) [(.int (0 : Int32))])) _
          refine XS.iload X132.here hx rfl (hb hby at_151) rfl ?_
          refine XS.icmpYes X132.here hx rfl (pc0 := 153) (pc' := 158) rfl (hb hby at_153) rfl (flt (by decide : ¬ ((3 : Int32) < (0 : Int32)))).2.2.2 (by decide) (by decide) ?_
          refine XS.aload X132.here hx rfl (hb hby at_158) rfl rfl ?_
          refine X132.arraylength hx (by exact A140.1) (State.isArrayOf_alike hZ.alike A140.2.1) (g := (mkF m 160 (Lq0 p1 p2 p3 p4 ucap us0 us1 us2 (kI 3) (kR b116) (kR b117) (kR r1_132) kU kU kU kU) [(.ref r1_132)])) rfl rfl (hb hby at_160) _ ?_
          rw [AV.len S140 Nl140 M140]
          show Steps _ _ _ (T132.setTop (mkF m 161 (Lq0 p1 p2 p3 p4 ucap us0 us1 us2 (kI 3) (kR b116) (kR b117) (kR r1_132) kU kU kU kU) [(.int (0 : Int32))])) _
          refine XS.istore X132.here hx rfl (hb hby at_161) rfl (l' := (Lq0 p1 p2 p3 p4 ucap us0 us1 us2 (kI 3) (kR b116) (kR b117) (kR r1_132) (kI 0) kU kU kU)) rfl ?_
          refine XS.iconst X132.here hx rfl (hb hby at_163) ?_
          refine XS.istore X132.here hx rfl (hb hby at_164) rfl (l' := (Lq0 p1 p2 p3 p4 ucap us0 us1 us2 (kI 3) (kR b116) (kR b117) (kR r1_132) (kI 0) (kI 0) kU kU)) rfl ?_
          show Steps _ _ _ (T132.setTop (mkF m 166 (Lq0 p1 p2 p3 p4 ucap us0 us1 us2 (kI 3) (kR b116) (kR b117) (kR r1_132) (kI 0) (kI 0) kU kU) [])) _
          refine XS.iconst X132.here hx rfl (hb hby at_166) ?_
          refine XS.istore X132.here hx rfl (hb hby at_167) rfl (l' := (Lq0 p1 p2 p3 p4 ucap us0 us1 us2 (kI 3) (kR b116) (kR b117) (kR r1_132) (kI 0) (kI 0) (kI (-1)) kU)) rfl ?_
          refine XS.iload X132.here hx rfl (hb hby at_169) rfl ?_
          show Steps _ _ _ (T132.setTop (mkF m 171 (Lq0 p1 p2 p3 p4 ucap us0 us1 us2 (kI 3) (kR b116) (kR b117) (kR r1_132) (kI 0) (kI 0) (kI (-1)) kU) [(.int (0 : Int32))])) _
          refine XS.ifYes X132.here hx rfl (pc0 := 171) (pc' := 209) rfl (hb hby at_171) rfl ((if0 _ _).trans (flt (by decide : ¬ ((0 : Int32) < (0 : Int32)))).2.2.2) (by decide) (by decide) ?_
          refine XS.iload X132.here hx rfl (hb hby at_209) rfl ?_
          refine XS.iconst X132.here hx rfl (hb hby at_211) ?_
          show Steps _ _ _ (T132.setTop (mkF m 212 (Lq0 p1 p2 p3 p4 ucap us0 us1 us2 (kI 3) (kR b116) (kR b117) (kR r1_132) (kI 0) (kI 0) (kI (-1)) kU) [(.int (1 : Int32)), (.int (0 : Int32))])) _
          refine XS.icmpYes X132.here hx rfl (pc0 := 212) (pc' := 250) rfl (hb hby at_212) rfl (flt (by decide : ¬ ((1 : Int32) < (0 : Int32)))).2.2.2 (by decide) (by decide) ?_
          refine XS.iload X132.here hx rfl (hb hby at_250) rfl ?_
          refine XS.iconst X132.here hx rfl (hb hby at_252) ?_
          show Steps _ _ _ (T132.setTop (mkF m 253 (Lq0 p1 p2 p3 p4 ucap us0 us1 us2 (kI 3) (kR b116) (kR b117) (kR r1_132) (kI 0) (kI 0) (kI (-1)) kU) [(.int (2 : Int32)), (.int (0 : Int32))])) _
          refine XS.icmpYes X132.here hx rfl (pc0 := 253) (pc' := 291) rfl (hb hby at_253) rfl (flt (by decide : ¬ ((2 : Int32) < (0 : Int32)))).2.2.2 (by decide) (by decide) ?_
          refine XS.iload X132.here hx rfl (hb hby at_291) rfl ?_
          refine XS.iconst X132.here hx rfl (hb hby at_293) ?_
          show Steps _ _ _ (T132.setTop (mkF m 294 (Lq0 p1 p2 p3 p4 ucap us0 us1 us2 (kI 3) (kR b116) (kR b117) (kR r1_132) (kI 0) (kI 0) (kI (-1)) kU) [(.int (1 : Int32)), (.int (0 : Int32))])) _
          refine XS.iand X132.here hx rfl (hb hby at_294) rfl ?_
          refine XS.ifYes X132.here hx rfl (pc0 := 295) (pc' := 307) rfl (hb hby at_295) rfl ((if0 _ _).trans (teq (rfl : (0 : Int32) = (0 : Int32))).1) (by decide) (by decide) ?_
          refine XS.iload X132.here hx rfl (hb hby at_307) rfl ?_
          show Steps _ _ _ (T132.setTop (mkF m 309 (Lq0 p1 p2 p3 p4 ucap us0 us1 us2 (kI 3) (kR b116) (kR b117) (kR r1_132) (kI 0) (kI 0) (kI (-1)) kU) [(.int (0 : Int32))])) _
          refine XS.iconst X132.here hx rfl (hb hby at_309) ?_
          refine XS.iand X132.here hx rfl (hb hby at_310) rfl ?_
          refine XS.ifYes X132.here hx rfl (pc0 := 311) (pc' := 323) rfl (hb hby at_311) rfl ((if0 _ _).trans (teq (rfl : (0 : Int32) = (0 : Int32))).1) (by decide) (by decide) ?_
          show Steps _ _ _ (T132.setTop (mkF m 323 (Lq0 p1 p2 p3 p4 ucap us0 us1 us2 (kI 3) (kR b116) (kR b117) (kR r1_132) (kI 0) (kI 0) (kI (-1)) kU) [])) _
          refine XS.iload X132.here hx rfl (hb hby at_323) rfl ?_
          refine XS.iconst X132.here hx rfl (hb hby at_325) ?_
          refine XS.iand X132.here hx rfl (hb hby at_326) rfl ?_
          show Steps _ _ _ (T132.setTop (mkF m 327 (Lq0 p1 p2 p3 p4 ucap us0 us1 us2 (kI 3) (kR b116) (kR b117) (kR r1_132) (kI 0) (kI 0) (kI (-1)) kU) [(.int (0 : Int32))])) _
          refine XS.ifYes X132.here hx rfl (pc0 := 327) (pc' := 339) rfl (hb hby at_327) rfl ((if0 _ _).trans (teq (rfl : (0 : Int32) = (0 : Int32))).1) (by decide) (by decide) ?_
          exact k)
        have he142 := own_end_3_0 hcapL hsL0 hsL1 hsL2 (own_vrL p2) (own_vrL p3) (own_vrL p4) hg
        exact jn2 (T132, _, _, (3 : Int32), b116, b117, r1_132, (0 : Int32), (0 : Int32), (-1 : Int32), .unset) ⟨he142.1, he142.2, (Or.inl rfl), (X132.more (by decide) (by decide)), rfl, N132, K136, fun t k => pre141 t k⟩
      · have Vr143 : AV Z T132.heap r1_132 .int (1 : Int32) [(.int (0 : Int32))] := by have q := P132_0; rw [hz, hvs] at q; exact q
        obtain ⟨cl144, A144, S144, Nl144, M144⟩ := id Vr143
        obtain ⟨cl145, A145, S145, Nl145, M145⟩ := id Vr143
        obtain ⟨cl146, A146, S146, Nl146, M146⟩ := id Vr143
        have hin146 : ¬ ((0 : Int32) < 0 ∨ cl146.slots.size ≤ ((0 : Int32)).toNatClampNeg) := AV.inb S146 Nl146 ⟨by decide, by decide⟩
        have hat146 : cl146.slots[((0 : Int32)).toNatClampNeg]? = some (.int (0 : Int32)) := AV.at S146 rfl
        have hc147 : (0 : Int32) < (lcmpW (p2.toInt64) (0 : Int64)) := by exact own_gt.mpr (Int64.lt_iff_toInt_lt.mpr (hg.1 rfl))
        have pre148 : ∀ t, Steps p.tables e below (T132.setTop (mkF m 339 (Lq0 p1 p2 p3 p4 ucap us0 us1 us2 (kI 3) (kR b116) (kR b117) (kR r1_132) (kI 1) (kI 1) (kI 0) (kI 0)) [])) t → Steps p.tables e below (s₁.setTop (entryFrame m #[(.int p1), (.int p2), (.int p3), (.int p4)] maxLocals)) t := fun t k => pre137 t (by
          show Steps _ _ _ (T132.setTop (mkF m 141 (Lq0 p1 p2 p3 p4 ucap us0 us1 us2 (kI 3) (kR b116) (kR b117) kU kU kU kU kU) [(.ref r1_132)])) _
          refine XS.astore X132.here hx rfl (hb hby at_141) rfl rfl (l' := (Lq0 p1 p2 p3 p4 ucap us0 us1 us2 (kI 3) (kR b116) (kR b117) (kR r1_132) kU kU kU kU)) rfl ?_
          refine XS.aload X132.here hx rfl (hb hby at_143) rfl rfl ?_
          show Steps _ _ _ (T132.setTop (mkF m 145 (Lq0 p1 p2 p3 p4 ucap us0 us1 us2 (kI 3) (kR b116) (kR b117) (kR r1_132) kU kU kU kU) [(.ref r1_132)])) _
          refine XS.ifnullNo X132.here hx rfl (hb hby at_145) rfl ?_
          refine XS.aload X132.here hx rfl (hb hby at_148) rfl rfl ?_
          refine X132.arraylength hx (by exact A144.1) (State.isArrayOf_alike hZ.alike A144.2.1) (g := (mkF m 150 (Lq0 p1 p2 p3 p4 ucap us0 us1 us2 (kI 3) (kR b116) (kR b117) (kR r1_132) kU kU kU kU) [(.ref r1_132)])) rfl rfl (hb hby at_150) _ ?_
          rw [AV.len S144 Nl144 M144]
          refine XS.iload X132.here hx rfl (hb hby at_151) rfl ?_
          show Steps _ _ _ (T132.setTop (mkF m 153 (Lq0 p1 p2 p3 p4 ucap us0 us1 us2 (kI 3) (kR b116) (kR b117) (kR r1_132) kU kU kU kU) [(.int (3 : Int32)), (.int (1 : Int32))])) _
          refine XS.icmpYes X132.here hx rfl (pc0 := 153) (pc' := 158) rfl (hb hby at_153) rfl (flt (by decide : ¬ ((3 : Int32) < (1 : Int32)))).2.2.2 (by decide) (by decide) ?_
          refine XS.aload X132.here hx rfl (hb hby at_158) rfl rfl ?_
          refine X132.arraylength hx (by exact A145.1) (State.isArrayOf_alike hZ.alike A145.2.1) (g := (mkF m 160 (Lq0 p1 p2 p3 p4 ucap us0 us1 us2 (kI 3) (kR b116) (kR b117) (kR r1_132) kU kU kU kU) [(.ref r1_132)])) rfl rfl (hb hby at_160) _ ?_
          rw [AV.len S145 Nl145 M145]
          refine XS.istore X132.here hx rfl (hb hby at_161) rfl (l' := (Lq0 p1 p2 p3 p4 ucap us0 us1 us2 (kI 3) (kR b116) (kR b117) (kR r1_132) (kI 1) kU kU kU)) rfl ?_
          show Steps _ _ _ (T132.setTop (mkF m 163 (Lq0 p1 p2 p3 p4 ucap us0 us1 us2 (kI 3) (kR b116) (kR b117) (kR r1_132) (kI 1) kU kU kU) [])) _
          refine XS.iconst X132.here hx rfl (hb hby at_163) ?_
          refine XS.istore X132.here hx rfl (hb hby at_164) rfl (l' := (Lq0 p1 p2 p3 p4 ucap us0 us1 us2 (kI 3) (kR b116) (kR b117) (kR r1_132) (kI 1) (kI 0) kU kU)) rfl ?_
          refine XS.iconst X132.here hx rfl (hb hby at_166) ?_
          show Steps _ _ _ (T132.setTop (mkF m 167 (Lq0 p1 p2 p3 p4 ucap us0 us1 us2 (kI 3) (kR b116) (kR b117) (kR r1_132) (kI 1) (kI 0) kU kU) [(.int (-1 : Int32))])) _
          refine XS.istore X132.here hx rfl (hb hby at_167) rfl (l' := (Lq0 p1 p2 p3 p4 ucap us0 us1 us2 (kI 3) (kR b116) (kR b117) (kR r1_132) (kI 1) (kI 0) (kI (-1)) kU)) rfl ?_
          refine XS.iload X132.here hx rfl (hb hby at_169) rfl ?_
          refine XS.ifNo X132.here hx rfl (hb hby at_171) rfl ((if0 _ _).trans (tlt (by decide : (0 : Int32) < (1 : Int32))).2.2.2) ?_
          show Steps _ _ _ (T132.setTop (mkF m 174 (Lq0 p1 p2 p3 p4 ucap us0 us1 us2 (kI 3) (kR b116) (kR b117) (kR r1_132) (kI 1) (kI 0) (kI (-1)) kU) [])) _
          refine XS.aload X132.here hx rfl (hb hby at_174) rfl rfl ?_
          refine XS.iconst X132.here hx rfl (hb hby at_176) ?_
          refine X132.iaload hx (j := (0 : Int32)) (v := (.int (0 : Int32))) (by exact A146.1) (State.isArrayOf_alike hZ.alike A146.2.1) A146.2.2 hin146 hat146 (g := (mkF m 177 (Lq0 p1 p2 p3 p4 ucap us0 us1 us2 (kI 3) (kR b116) (kR b117) (kR r1_132) (kI 1) (kI 0) (kI (-1)) kU) [(.int (0 : Int32)), (.ref r1_132)])) rfl rfl (hb hby at_177) _ ?_
          refine XS.istore X132.here hx rfl (hb hby at_178) rfl (l' := (Lq0 p1 p2 p3 p4 ucap us0 us1 us2 (kI 3) (kR b116) (kR b117) (kR r1_132) (kI 1) (kI 0) (kI (-1)) (kI 0))) rfl ?_
          show Steps _ _ _ (T132.setTop (mkF m 180 (Lq0 p1 p2 p3 p4 ucap us0 us1 us2 (kI 3) (kR b116) (kR b117) (kR r1_132) (kI 1) (kI 0) (kI (-1)) (kI 0)) [])) _
          refine XS.iload X132.here hx rfl (hb hby at_180) rfl ?_
          refine XS.iload X132.here hx rfl (hb hby at_182) rfl ?_
          refine XS.icmpNo X132.here hx rfl (hb hby at_184) rfl (tlt (by decide : (-1 : Int32) < (0 : Int32))).2.2.2 ?_
          show Steps _ _ _ (T132.setTop (mkF m 187 (Lq0 p1 p2 p3 p4 ucap us0 us1 us2 (kI 3) (kR b116) (kR b117) (kR r1_132) (kI 1) (kI 0) (kI (-1)) (kI 0)) [])) _
          refine XS.iload X132.here hx rfl (hb hby at_187) rfl ?_
          refine XS.iload X132.here hx rfl (hb hby at_189) rfl ?_
          refine XS.icmpYes X132.here hx rfl (pc0 := 191) (pc' := 196) rfl (hb hby at_191) rfl (tlt (by decide : (0 : Int32) < (3 : Int32))).1 (by decide) (by decide) ?_
          show Steps _ _ _ (T132.setTop (mkF m 196 (Lq0 p1 p2 p3 p4 ucap us0 us1 us2 (kI 3) (kR b116) (kR b117) (kR r1_132) (kI 1) (kI 0) (kI (-1)) (kI 0)) [])) _
          refine XS.iload X132.here hx rfl (hb hby at_196) rfl ?_
          refine XS.iconst X132.here hx rfl (hb hby at_198) ?_
          refine XS.iload X132.here hx rfl (hb hby at_199) rfl ?_
          show Steps _ _ _ (T132.setTop (mkF m 201 (Lq0 p1 p2 p3 p4 ucap us0 us1 us2 (kI 3) (kR b116) (kR b117) (kR r1_132) (kI 1) (kI 0) (kI (-1)) (kI 0)) [(.int (0 : Int32)), (.int (1 : Int32)), (.int (0 : Int32))])) _
          refine XS.ishl X132.here hx rfl (hb hby at_201) rfl ?_
          refine XS.ior X132.here hx rfl (hb hby at_202) rfl ?_
          refine XS.istore X132.here hx rfl (hb hby at_203) rfl (l' := (Lq0 p1 p2 p3 p4 ucap us0 us1 us2 (kI 3) (kR b116) (kR b117) (kR r1_132) (kI 1) (kI 1) (kI (-1)) (kI 0))) rfl ?_
          show Steps _ _ _ (T132.setTop (mkF m 205 (Lq0 p1 p2 p3 p4 ucap us0 us1 us2 (kI 3) (kR b116) (kR b117) (kR r1_132) (kI 1) (kI 1) (kI (-1)) (kI 0)) [])) _
          refine XS.iload X132.here hx rfl (hb hby at_205) rfl ?_
          refine XS.istore X132.here hx rfl (hb hby at_207) rfl (l' := (Lq0 p1 p2 p3 p4 ucap us0 us1 us2 (kI 3) (kR b116) (kR b117) (kR r1_132) (kI 1) (kI 1) (kI 0) (kI 0))) rfl ?_
          refine XS.iload X132.here hx rfl (hb hby at_209) rfl ?_
          show Steps _ _ _ (T132.setTop (mkF m 211 (Lq0 p1 p2 p3 p4 ucap us0 us1 us2 (kI 3) (kR b116) (kR b117) (kR r1_132) (kI 1) (kI 1) (kI 0) (kI 0)) [(.int (1 : Int32))])) _
          refine XS.iconst X132.here hx rfl (hb hby at_211) ?_
          refine XS.icmpYes X132.here hx rfl (pc0 := 212) (pc' := 250) rfl (hb hby at_212) rfl (flt (by decide : ¬ ((1 : Int32) < (1 : Int32)))).2.2.2 (by decide) (by decide) ?_
          refine XS.iload X132.here hx rfl (hb hby at_250) rfl ?_
          show Steps _ _ _ (T132.setTop (mkF m 252 (Lq0 p1 p2 p3 p4 ucap us0 us1 us2 (kI 3) (kR b116) (kR b117) (kR r1_132) (kI 1) (kI 1) (kI 0) (kI 0)) [(.int (1 : Int32))])) _
          refine XS.iconst X132.here hx rfl (hb hby at_252) ?_
          refine XS.icmpYes X132.here hx rfl (pc0 := 253) (pc' := 291) rfl (hb hby at_253) rfl (flt (by decide : ¬ ((2 : Int32) < (1 : Int32)))).2.2.2 (by decide) (by decide) ?_
          refine XS.iload X132.here hx rfl (hb hby at_291) rfl ?_
          show Steps _ _ _ (T132.setTop (mkF m 293 (Lq0 p1 p2 p3 p4 ucap us0 us1 us2 (kI 3) (kR b116) (kR b117) (kR r1_132) (kI 1) (kI 1) (kI 0) (kI 0)) [(.int (1 : Int32))])) _
          refine XS.iconst X132.here hx rfl (hb hby at_293) ?_
          refine XS.iand X132.here hx rfl (hb hby at_294) rfl ?_
          refine XS.ifNo X132.here hx rfl (hb hby at_295) rfl ((if0 _ _).trans (feq (by decide : ¬ ((1 : Int32) = (0 : Int32)))).1) ?_
          show Steps _ _ _ (T132.setTop (mkF m 298 (Lq0 p1 p2 p3 p4 ucap us0 us1 us2 (kI 3) (kR b116) (kR b117) (kR r1_132) (kI 1) (kI 1) (kI 0) (kI 0)) [])) _
          refine XS.lload X132.here hx rfl (hb hby at_298) rfl ?_
          refine XS.lconst X132.here hx rfl (hb hby at_300) ?_
          refine XS.lcmp X132.here hx rfl (hb hby at_301) rfl ?_
          show Steps _ _ _ (T132.setTop (mkF m 302 (Lq0 p1 p2 p3 p4 ucap us0 us1 us2 (kI 3) (kR b116) (kR b117) (kR r1_132) (kI 1) (kI 1) (kI 0) (kI 0)) [(.int (lcmpW (p2.toInt64) (0 : Int64)))])) _
          refine XS.ifYes X132.here hx rfl (pc0 := 302) (pc' := 307) rfl (hb hby at_302) rfl ((if0 _ _).trans (tlt hc147).2.2.1) (by decide) (by decide) ?_
          refine XS.iload X132.here hx rfl (hb hby at_307) rfl ?_
          refine XS.iconst X132.here hx rfl (hb hby at_309) ?_
          show Steps _ _ _ (T132.setTop (mkF m 310 (Lq0 p1 p2 p3 p4 ucap us0 us1 us2 (kI 3) (kR b116) (kR b117) (kR r1_132) (kI 1) (kI 1) (kI 0) (kI 0)) [(.int (2 : Int32)), (.int (1 : Int32))])) _
          refine XS.iand X132.here hx rfl (hb hby at_310) rfl ?_
          refine XS.ifYes X132.here hx rfl (pc0 := 311) (pc' := 323) rfl (hb hby at_311) rfl ((if0 _ _).trans (teq (rfl : (0 : Int32) = (0 : Int32))).1) (by decide) (by decide) ?_
          refine XS.iload X132.here hx rfl (hb hby at_323) rfl ?_
          show Steps _ _ _ (T132.setTop (mkF m 325 (Lq0 p1 p2 p3 p4 ucap us0 us1 us2 (kI 3) (kR b116) (kR b117) (kR r1_132) (kI 1) (kI 1) (kI 0) (kI 0)) [(.int (1 : Int32))])) _
          refine XS.iconst X132.here hx rfl (hb hby at_325) ?_
          refine XS.iand X132.here hx rfl (hb hby at_326) rfl ?_
          refine XS.ifYes X132.here hx rfl (pc0 := 327) (pc' := 339) rfl (hb hby at_327) rfl ((if0 _ _).trans (teq (rfl : (0 : Int32) = (0 : Int32))).1) (by decide) (by decide) ?_
          exact k)
        have he149 := own_end_3_1 hcapL hsL0 hsL1 hsL2 (own_vrL p2) (own_vrL p3) (own_vrL p4) hg
        exact jn2 (T132, _, _, (3 : Int32), b116, b117, r1_132, (1 : Int32), (1 : Int32), (0 : Int32), .val (.int (0 : Int32))) ⟨he149.1, he149.2, (Or.inr (Or.inl ⟨_, rfl⟩)), (X132.more (by decide) (by decide)), rfl, N132, K136, fun t k => pre148 t k⟩
      · have Vr150 : AV Z T132.heap r1_132 .int (1 : Int32) [(.int (1 : Int32))] := by have q := P132_0; rw [hz, hvs] at q; exact q
        obtain ⟨cl151, A151, S151, Nl151, M151⟩ := id Vr150
        obtain ⟨cl152, A152, S152, Nl152, M152⟩ := id Vr150
        obtain ⟨cl153, A153, S153, Nl153, M153⟩ := id Vr150
        have hin153 : ¬ ((0 : Int32) < 0 ∨ cl153.slots.size ≤ ((0 : Int32)).toNatClampNeg) := AV.inb S153 Nl153 ⟨by decide, by decide⟩
        have hat153 : cl153.slots[((0 : Int32)).toNatClampNeg]? = some (.int (1 : Int32)) := AV.at S153 rfl
        have hc154 : (0 : Int32) < (lcmpW (p3.toInt64) (0 : Int64)) := by exact own_gt.mpr (Int64.lt_iff_toInt_lt.mpr (hg.2.1 rfl))
        have pre155 : ∀ t, Steps p.tables e below (T132.setTop (mkF m 339 (Lq0 p1 p2 p3 p4 ucap us0 us1 us2 (kI 3) (kR b116) (kR b117) (kR r1_132) (kI 1) (kI 2) (kI 1) (kI 1)) [])) t → Steps p.tables e below (s₁.setTop (entryFrame m #[(.int p1), (.int p2), (.int p3), (.int p4)] maxLocals)) t := fun t k => pre137 t (by
          show Steps _ _ _ (T132.setTop (mkF m 141 (Lq0 p1 p2 p3 p4 ucap us0 us1 us2 (kI 3) (kR b116) (kR b117) kU kU kU kU kU) [(.ref r1_132)])) _
          refine XS.astore X132.here hx rfl (hb hby at_141) rfl rfl (l' := (Lq0 p1 p2 p3 p4 ucap us0 us1 us2 (kI 3) (kR b116) (kR b117) (kR r1_132) kU kU kU kU)) rfl ?_
          refine XS.aload X132.here hx rfl (hb hby at_143) rfl rfl ?_
          refine XS.ifnullNo X132.here hx rfl (hb hby at_145) rfl ?_
          show Steps _ _ _ (T132.setTop (mkF m 148 (Lq0 p1 p2 p3 p4 ucap us0 us1 us2 (kI 3) (kR b116) (kR b117) (kR r1_132) kU kU kU kU) [])) _
          refine XS.aload X132.here hx rfl (hb hby at_148) rfl rfl ?_
          refine X132.arraylength hx (by exact A151.1) (State.isArrayOf_alike hZ.alike A151.2.1) (g := (mkF m 150 (Lq0 p1 p2 p3 p4 ucap us0 us1 us2 (kI 3) (kR b116) (kR b117) (kR r1_132) kU kU kU kU) [(.ref r1_132)])) rfl rfl (hb hby at_150) _ ?_
          rw [AV.len S151 Nl151 M151]
          refine XS.iload X132.here hx rfl (hb hby at_151) rfl ?_
          refine XS.icmpYes X132.here hx rfl (pc0 := 153) (pc' := 158) rfl (hb hby at_153) rfl (flt (by decide : ¬ ((3 : Int32) < (1 : Int32)))).2.2.2 (by decide) (by decide) ?_
          show Steps _ _ _ (T132.setTop (mkF m 158 (Lq0 p1 p2 p3 p4 ucap us0 us1 us2 (kI 3) (kR b116) (kR b117) (kR r1_132) kU kU kU kU) [])) _
          refine XS.aload X132.here hx rfl (hb hby at_158) rfl rfl ?_
          refine X132.arraylength hx (by exact A152.1) (State.isArrayOf_alike hZ.alike A152.2.1) (g := (mkF m 160 (Lq0 p1 p2 p3 p4 ucap us0 us1 us2 (kI 3) (kR b116) (kR b117) (kR r1_132) kU kU kU kU) [(.ref r1_132)])) rfl rfl (hb hby at_160) _ ?_
          rw [AV.len S152 Nl152 M152]
          refine XS.istore X132.here hx rfl (hb hby at_161) rfl (l' := (Lq0 p1 p2 p3 p4 ucap us0 us1 us2 (kI 3) (kR b116) (kR b117) (kR r1_132) (kI 1) kU kU kU)) rfl ?_
          refine XS.iconst X132.here hx rfl (hb hby at_163) ?_
          show Steps _ _ _ (T132.setTop (mkF m 164 (Lq0 p1 p2 p3 p4 ucap us0 us1 us2 (kI 3) (kR b116) (kR b117) (kR r1_132) (kI 1) kU kU kU) [(.int (0 : Int32))])) _
          refine XS.istore X132.here hx rfl (hb hby at_164) rfl (l' := (Lq0 p1 p2 p3 p4 ucap us0 us1 us2 (kI 3) (kR b116) (kR b117) (kR r1_132) (kI 1) (kI 0) kU kU)) rfl ?_
          refine XS.iconst X132.here hx rfl (hb hby at_166) ?_
          refine XS.istore X132.here hx rfl (hb hby at_167) rfl (l' := (Lq0 p1 p2 p3 p4 ucap us0 us1 us2 (kI 3) (kR b116) (kR b117) (kR r1_132) (kI 1) (kI 0) (kI (-1)) kU)) rfl ?_
          show Steps _ _ _ (T132.setTop (mkF m 169 (Lq0 p1 p2 p3 p4 ucap us0 us1 us2 (kI 3) (kR b116) (kR b117) (kR r1_132) (kI 1) (kI 0) (kI (-1)) kU) [])) _
          refine XS.iload X132.here hx rfl (hb hby at_169) rfl ?_
          refine XS.ifNo X132.here hx rfl (hb hby at_171) rfl ((if0 _ _).trans (tlt (by decide : (0 : Int32) < (1 : Int32))).2.2.2) ?_
          refine XS.aload X132.here hx rfl (hb hby at_174) rfl rfl ?_
          show Steps _ _ _ (T132.setTop (mkF m 176 (Lq0 p1 p2 p3 p4 ucap us0 us1 us2 (kI 3) (kR b116) (kR b117) (kR r1_132) (kI 1) (kI 0) (kI (-1)) kU) [(.ref r1_132)])) _
          refine XS.iconst X132.here hx rfl (hb hby at_176) ?_
          refine X132.iaload hx (j := (0 : Int32)) (v := (.int (1 : Int32))) (by exact A153.1) (State.isArrayOf_alike hZ.alike A153.2.1) A153.2.2 hin153 hat153 (g := (mkF m 177 (Lq0 p1 p2 p3 p4 ucap us0 us1 us2 (kI 3) (kR b116) (kR b117) (kR r1_132) (kI 1) (kI 0) (kI (-1)) kU) [(.int (0 : Int32)), (.ref r1_132)])) rfl rfl (hb hby at_177) _ ?_
          refine XS.istore X132.here hx rfl (hb hby at_178) rfl (l' := (Lq0 p1 p2 p3 p4 ucap us0 us1 us2 (kI 3) (kR b116) (kR b117) (kR r1_132) (kI 1) (kI 0) (kI (-1)) (kI 1))) rfl ?_
          refine XS.iload X132.here hx rfl (hb hby at_180) rfl ?_
          show Steps _ _ _ (T132.setTop (mkF m 182 (Lq0 p1 p2 p3 p4 ucap us0 us1 us2 (kI 3) (kR b116) (kR b117) (kR r1_132) (kI 1) (kI 0) (kI (-1)) (kI 1)) [(.int (1 : Int32))])) _
          refine XS.iload X132.here hx rfl (hb hby at_182) rfl ?_
          refine XS.icmpNo X132.here hx rfl (hb hby at_184) rfl (tlt (by decide : (-1 : Int32) < (1 : Int32))).2.2.2 ?_
          refine XS.iload X132.here hx rfl (hb hby at_187) rfl ?_
          show Steps _ _ _ (T132.setTop (mkF m 189 (Lq0 p1 p2 p3 p4 ucap us0 us1 us2 (kI 3) (kR b116) (kR b117) (kR r1_132) (kI 1) (kI 0) (kI (-1)) (kI 1)) [(.int (1 : Int32))])) _
          refine XS.iload X132.here hx rfl (hb hby at_189) rfl ?_
          refine XS.icmpYes X132.here hx rfl (pc0 := 191) (pc' := 196) rfl (hb hby at_191) rfl (tlt (by decide : (1 : Int32) < (3 : Int32))).1 (by decide) (by decide) ?_
          refine XS.iload X132.here hx rfl (hb hby at_196) rfl ?_
          show Steps _ _ _ (T132.setTop (mkF m 198 (Lq0 p1 p2 p3 p4 ucap us0 us1 us2 (kI 3) (kR b116) (kR b117) (kR r1_132) (kI 1) (kI 0) (kI (-1)) (kI 1)) [(.int (0 : Int32))])) _
          refine XS.iconst X132.here hx rfl (hb hby at_198) ?_
          refine XS.iload X132.here hx rfl (hb hby at_199) rfl ?_
          refine XS.ishl X132.here hx rfl (hb hby at_201) rfl ?_
          show Steps _ _ _ (T132.setTop (mkF m 202 (Lq0 p1 p2 p3 p4 ucap us0 us1 us2 (kI 3) (kR b116) (kR b117) (kR r1_132) (kI 1) (kI 0) (kI (-1)) (kI 1)) [(.int (2 : Int32)), (.int (0 : Int32))])) _
          refine XS.ior X132.here hx rfl (hb hby at_202) rfl ?_
          refine XS.istore X132.here hx rfl (hb hby at_203) rfl (l' := (Lq0 p1 p2 p3 p4 ucap us0 us1 us2 (kI 3) (kR b116) (kR b117) (kR r1_132) (kI 1) (kI 2) (kI (-1)) (kI 1))) rfl ?_
          refine XS.iload X132.here hx rfl (hb hby at_205) rfl ?_
          show Steps _ _ _ (T132.setTop (mkF m 207 (Lq0 p1 p2 p3 p4 ucap us0 us1 us2 (kI 3) (kR b116) (kR b117) (kR r1_132) (kI 1) (kI 2) (kI (-1)) (kI 1)) [(.int (1 : Int32))])) _
          refine XS.istore X132.here hx rfl (hb hby at_207) rfl (l' := (Lq0 p1 p2 p3 p4 ucap us0 us1 us2 (kI 3) (kR b116) (kR b117) (kR r1_132) (kI 1) (kI 2) (kI 1) (kI 1))) rfl ?_
          refine XS.iload X132.here hx rfl (hb hby at_209) rfl ?_
          refine XS.iconst X132.here hx rfl (hb hby at_211) ?_
          show Steps _ _ _ (T132.setTop (mkF m 212 (Lq0 p1 p2 p3 p4 ucap us0 us1 us2 (kI 3) (kR b116) (kR b117) (kR r1_132) (kI 1) (kI 2) (kI 1) (kI 1)) [(.int (1 : Int32)), (.int (1 : Int32))])) _
          refine XS.icmpYes X132.here hx rfl (pc0 := 212) (pc' := 250) rfl (hb hby at_212) rfl (flt (by decide : ¬ ((1 : Int32) < (1 : Int32)))).2.2.2 (by decide) (by decide) ?_
          refine XS.iload X132.here hx rfl (hb hby at_250) rfl ?_
          refine XS.iconst X132.here hx rfl (hb hby at_252) ?_
          show Steps _ _ _ (T132.setTop (mkF m 253 (Lq0 p1 p2 p3 p4 ucap us0 us1 us2 (kI 3) (kR b116) (kR b117) (kR r1_132) (kI 1) (kI 2) (kI 1) (kI 1)) [(.int (2 : Int32)), (.int (1 : Int32))])) _
          refine XS.icmpYes X132.here hx rfl (pc0 := 253) (pc' := 291) rfl (hb hby at_253) rfl (flt (by decide : ¬ ((2 : Int32) < (1 : Int32)))).2.2.2 (by decide) (by decide) ?_
          refine XS.iload X132.here hx rfl (hb hby at_291) rfl ?_
          refine XS.iconst X132.here hx rfl (hb hby at_293) ?_
          show Steps _ _ _ (T132.setTop (mkF m 294 (Lq0 p1 p2 p3 p4 ucap us0 us1 us2 (kI 3) (kR b116) (kR b117) (kR r1_132) (kI 1) (kI 2) (kI 1) (kI 1)) [(.int (1 : Int32)), (.int (2 : Int32))])) _
          refine XS.iand X132.here hx rfl (hb hby at_294) rfl ?_
          refine XS.ifYes X132.here hx rfl (pc0 := 295) (pc' := 307) rfl (hb hby at_295) rfl ((if0 _ _).trans (teq (rfl : (0 : Int32) = (0 : Int32))).1) (by decide) (by decide) ?_
          refine XS.iload X132.here hx rfl (hb hby at_307) rfl ?_
          show Steps _ _ _ (T132.setTop (mkF m 309 (Lq0 p1 p2 p3 p4 ucap us0 us1 us2 (kI 3) (kR b116) (kR b117) (kR r1_132) (kI 1) (kI 2) (kI 1) (kI 1)) [(.int (2 : Int32))])) _
          refine XS.iconst X132.here hx rfl (hb hby at_309) ?_
          refine XS.iand X132.here hx rfl (hb hby at_310) rfl ?_
          refine XS.ifNo X132.here hx rfl (hb hby at_311) rfl ((if0 _ _).trans (feq (by decide : ¬ ((2 : Int32) = (0 : Int32)))).1) ?_
          show Steps _ _ _ (T132.setTop (mkF m 314 (Lq0 p1 p2 p3 p4 ucap us0 us1 us2 (kI 3) (kR b116) (kR b117) (kR r1_132) (kI 1) (kI 2) (kI 1) (kI 1)) [])) _
          refine XS.lload X132.here hx rfl (hb hby at_314) rfl ?_
          refine XS.lconst X132.here hx rfl (hb hby at_316) ?_
          refine XS.lcmp X132.here hx rfl (hb hby at_317) rfl ?_
          show Steps _ _ _ (T132.setTop (mkF m 318 (Lq0 p1 p2 p3 p4 ucap us0 us1 us2 (kI 3) (kR b116) (kR b117) (kR r1_132) (kI 1) (kI 2) (kI 1) (kI 1)) [(.int (lcmpW (p3.toInt64) (0 : Int64)))])) _
          refine XS.ifYes X132.here hx rfl (pc0 := 318) (pc' := 323) rfl (hb hby at_318) rfl ((if0 _ _).trans (tlt hc154).2.2.1) (by decide) (by decide) ?_
          refine XS.iload X132.here hx rfl (hb hby at_323) rfl ?_
          refine XS.iconst X132.here hx rfl (hb hby at_325) ?_
          show Steps _ _ _ (T132.setTop (mkF m 326 (Lq0 p1 p2 p3 p4 ucap us0 us1 us2 (kI 3) (kR b116) (kR b117) (kR r1_132) (kI 1) (kI 2) (kI 1) (kI 1)) [(.int (4 : Int32)), (.int (2 : Int32))])) _
          refine XS.iand X132.here hx rfl (hb hby at_326) rfl ?_
          refine XS.ifYes X132.here hx rfl (pc0 := 327) (pc' := 339) rfl (hb hby at_327) rfl ((if0 _ _).trans (teq (rfl : (0 : Int32) = (0 : Int32))).1) (by decide) (by decide) ?_
          exact k)
        have he156 := own_end_3_2 hcapL hsL0 hsL1 hsL2 (own_vrL p2) (own_vrL p3) (own_vrL p4) hg
        exact jn2 (T132, _, _, (3 : Int32), b116, b117, r1_132, (1 : Int32), (2 : Int32), (1 : Int32), .val (.int (1 : Int32))) ⟨he156.1, he156.2, (Or.inr (Or.inl ⟨_, rfl⟩)), (X132.more (by decide) (by decide)), rfl, N132, K136, fun t k => pre155 t k⟩
      · have Vr157 : AV Z T132.heap r1_132 .int (2 : Int32) [(.int (0 : Int32)), (.int (1 : Int32))] := by have q := P132_0; rw [hz, hvs] at q; exact q
        obtain ⟨cl158, A158, S158, Nl158, M158⟩ := id Vr157
        obtain ⟨cl159, A159, S159, Nl159, M159⟩ := id Vr157
        obtain ⟨cl160, A160, S160, Nl160, M160⟩ := id Vr157
        have hin160 : ¬ ((0 : Int32) < 0 ∨ cl160.slots.size ≤ ((0 : Int32)).toNatClampNeg) := AV.inb S160 Nl160 ⟨by decide, by decide⟩
        have hat160 : cl160.slots[((0 : Int32)).toNatClampNeg]? = some (.int (0 : Int32)) := AV.at S160 rfl
        obtain ⟨cl161, A161, S161, Nl161, M161⟩ := id Vr157
        have hin161 : ¬ ((1 : Int32) < 0 ∨ cl161.slots.size ≤ ((1 : Int32)).toNatClampNeg) := AV.inb S161 Nl161 ⟨by decide, by decide⟩
        have hat161 : cl161.slots[((1 : Int32)).toNatClampNeg]? = some (.int (1 : Int32)) := AV.at S161 rfl
        have hc162 : (0 : Int32) < (lcmpW (p2.toInt64) (0 : Int64)) := by exact own_gt.mpr (Int64.lt_iff_toInt_lt.mpr (hg.1 rfl))
        have hc163 : (0 : Int32) < (lcmpW (p3.toInt64) (0 : Int64)) := by exact own_gt.mpr (Int64.lt_iff_toInt_lt.mpr (hg.2.1 rfl))
        have pre164 : ∀ t, Steps p.tables e below (T132.setTop (mkF m 339 (Lq0 p1 p2 p3 p4 ucap us0 us1 us2 (kI 3) (kR b116) (kR b117) (kR r1_132) (kI 2) (kI 3) (kI 1) (kI 1)) [])) t → Steps p.tables e below (s₁.setTop (entryFrame m #[(.int p1), (.int p2), (.int p3), (.int p4)] maxLocals)) t := fun t k => pre137 t (by
          show Steps _ _ _ (T132.setTop (mkF m 141 (Lq0 p1 p2 p3 p4 ucap us0 us1 us2 (kI 3) (kR b116) (kR b117) kU kU kU kU kU) [(.ref r1_132)])) _
          refine XS.astore X132.here hx rfl (hb hby at_141) rfl rfl (l' := (Lq0 p1 p2 p3 p4 ucap us0 us1 us2 (kI 3) (kR b116) (kR b117) (kR r1_132) kU kU kU kU)) rfl ?_
          show Steps _ _ _ (T132.setTop (mkF m 143 (Lq0 p1 p2 p3 p4 ucap us0 us1 us2 (kI 3) (kR b116) (kR b117) (kR r1_132) kU kU kU kU) [])) _
          refine XS.aload X132.here hx rfl (hb hby at_143) rfl rfl ?_
          refine XS.ifnullNo X132.here hx rfl (hb hby at_145) rfl ?_
          refine XS.aload X132.here hx rfl (hb hby at_148) rfl rfl ?_
          refine X132.arraylength hx (by exact A158.1) (State.isArrayOf_alike hZ.alike A158.2.1) (g := (mkF m 150 (Lq0 p1 p2 p3 p4 ucap us0 us1 us2 (kI 3) (kR b116) (kR b117) (kR r1_132) kU kU kU kU) [(.ref r1_132)])) rfl rfl (hb hby at_150) _ ?_
          rw [AV.len S158 Nl158 M158]
          show Steps _ _ _ (T132.setTop (mkF m 151 (Lq0 p1 p2 p3 p4 ucap us0 us1 us2 (kI 3) (kR b116) (kR b117) (kR r1_132) kU kU kU kU) [(.int (2 : Int32))])) _
          refine XS.iload X132.here hx rfl (hb hby at_151) rfl ?_
          refine XS.icmpYes X132.here hx rfl (pc0 := 153) (pc' := 158) rfl (hb hby at_153) rfl (flt (by decide : ¬ ((3 : Int32) < (2 : Int32)))).2.2.2 (by decide) (by decide) ?_
          refine XS.aload X132.here hx rfl (hb hby at_158) rfl rfl ?_
          refine X132.arraylength hx (by exact A159.1) (State.isArrayOf_alike hZ.alike A159.2.1) (g := (mkF m 160 (Lq0 p1 p2 p3 p4 ucap us0 us1 us2 (kI 3) (kR b116) (kR b117) (kR r1_132) kU kU kU kU) [(.ref r1_132)])) rfl rfl (hb hby at_160) _ ?_
          rw [AV.len S159 Nl159 M159]
          show Steps _ _ _ (T132.setTop (mkF m 161 (Lq0 p1 p2 p3 p4 ucap us0 us1 us2 (kI 3) (kR b116) (kR b117) (kR r1_132) kU kU kU kU) [(.int (2 : Int32))])) _
          refine XS.istore X132.here hx rfl (hb hby at_161) rfl (l' := (Lq0 p1 p2 p3 p4 ucap us0 us1 us2 (kI 3) (kR b116) (kR b117) (kR r1_132) (kI 2) kU kU kU)) rfl ?_
          refine XS.iconst X132.here hx rfl (hb hby at_163) ?_
          refine XS.istore X132.here hx rfl (hb hby at_164) rfl (l' := (Lq0 p1 p2 p3 p4 ucap us0 us1 us2 (kI 3) (kR b116) (kR b117) (kR r1_132) (kI 2) (kI 0) kU kU)) rfl ?_
          show Steps _ _ _ (T132.setTop (mkF m 166 (Lq0 p1 p2 p3 p4 ucap us0 us1 us2 (kI 3) (kR b116) (kR b117) (kR r1_132) (kI 2) (kI 0) kU kU) [])) _
          refine XS.iconst X132.here hx rfl (hb hby at_166) ?_
          refine XS.istore X132.here hx rfl (hb hby at_167) rfl (l' := (Lq0 p1 p2 p3 p4 ucap us0 us1 us2 (kI 3) (kR b116) (kR b117) (kR r1_132) (kI 2) (kI 0) (kI (-1)) kU)) rfl ?_
          refine XS.iload X132.here hx rfl (hb hby at_169) rfl ?_
          show Steps _ _ _ (T132.setTop (mkF m 171 (Lq0 p1 p2 p3 p4 ucap us0 us1 us2 (kI 3) (kR b116) (kR b117) (kR r1_132) (kI 2) (kI 0) (kI (-1)) kU) [(.int (2 : Int32))])) _
          refine XS.ifNo X132.here hx rfl (hb hby at_171) rfl ((if0 _ _).trans (tlt (by decide : (0 : Int32) < (2 : Int32))).2.2.2) ?_
          refine XS.aload X132.here hx rfl (hb hby at_174) rfl rfl ?_
          refine XS.iconst X132.here hx rfl (hb hby at_176) ?_
          refine X132.iaload hx (j := (0 : Int32)) (v := (.int (0 : Int32))) (by exact A160.1) (State.isArrayOf_alike hZ.alike A160.2.1) A160.2.2 hin160 hat160 (g := (mkF m 177 (Lq0 p1 p2 p3 p4 ucap us0 us1 us2 (kI 3) (kR b116) (kR b117) (kR r1_132) (kI 2) (kI 0) (kI (-1)) kU) [(.int (0 : Int32)), (.ref r1_132)])) rfl rfl (hb hby at_177) _ ?_
          show Steps _ _ _ (T132.setTop (mkF m 178 (Lq0 p1 p2 p3 p4 ucap us0 us1 us2 (kI 3) (kR b116) (kR b117) (kR r1_132) (kI 2) (kI 0) (kI (-1)) kU) [(.int (0 : Int32))])) _
          refine XS.istore X132.here hx rfl (hb hby at_178) rfl (l' := (Lq0 p1 p2 p3 p4 ucap us0 us1 us2 (kI 3) (kR b116) (kR b117) (kR r1_132) (kI 2) (kI 0) (kI (-1)) (kI 0))) rfl ?_
          refine XS.iload X132.here hx rfl (hb hby at_180) rfl ?_
          refine XS.iload X132.here hx rfl (hb hby at_182) rfl ?_
          show Steps _ _ _ (T132.setTop (mkF m 184 (Lq0 p1 p2 p3 p4 ucap us0 us1 us2 (kI 3) (kR b116) (kR b117) (kR r1_132) (kI 2) (kI 0) (kI (-1)) (kI 0)) [(.int (-1 : Int32)), (.int (0 : Int32))])) _
          refine XS.icmpNo X132.here hx rfl (hb hby at_184) rfl (tlt (by decide : (-1 : Int32) < (0 : Int32))).2.2.2 ?_
          refine XS.iload X132.here hx rfl (hb hby at_187) rfl ?_
          refine XS.iload X132.here hx rfl (hb hby at_189) rfl ?_
          show Steps _ _ _ (T132.setTop (mkF m 191 (Lq0 p1 p2 p3 p4 ucap us0 us1 us2 (kI 3) (kR b116) (kR b117) (kR r1_132) (kI 2) (kI 0) (kI (-1)) (kI 0)) [(.int (3 : Int32)), (.int (0 : Int32))])) _
          refine XS.icmpYes X132.here hx rfl (pc0 := 191) (pc' := 196) rfl (hb hby at_191) rfl (tlt (by decide : (0 : Int32) < (3 : Int32))).1 (by decide) (by decide) ?_
          refine XS.iload X132.here hx rfl (hb hby at_196) rfl ?_
          refine XS.iconst X132.here hx rfl (hb hby at_198) ?_
          show Steps _ _ _ (T132.setTop (mkF m 199 (Lq0 p1 p2 p3 p4 ucap us0 us1 us2 (kI 3) (kR b116) (kR b117) (kR r1_132) (kI 2) (kI 0) (kI (-1)) (kI 0)) [(.int (1 : Int32)), (.int (0 : Int32))])) _
          refine XS.iload X132.here hx rfl (hb hby at_199) rfl ?_
          refine XS.ishl X132.here hx rfl (hb hby at_201) rfl ?_
          refine XS.ior X132.here hx rfl (hb hby at_202) rfl ?_
          show Steps _ _ _ (T132.setTop (mkF m 203 (Lq0 p1 p2 p3 p4 ucap us0 us1 us2 (kI 3) (kR b116) (kR b117) (kR r1_132) (kI 2) (kI 0) (kI (-1)) (kI 0)) [(.int (1 : Int32))])) _
          refine XS.istore X132.here hx rfl (hb hby at_203) rfl (l' := (Lq0 p1 p2 p3 p4 ucap us0 us1 us2 (kI 3) (kR b116) (kR b117) (kR r1_132) (kI 2) (kI 1) (kI (-1)) (kI 0))) rfl ?_
          refine XS.iload X132.here hx rfl (hb hby at_205) rfl ?_
          refine XS.istore X132.here hx rfl (hb hby at_207) rfl (l' := (Lq0 p1 p2 p3 p4 ucap us0 us1 us2 (kI 3) (kR b116) (kR b117) (kR r1_132) (kI 2) (kI 1) (kI 0) (kI 0))) rfl ?_
          show Steps _ _ _ (T132.setTop (mkF m 209 (Lq0 p1 p2 p3 p4 ucap us0 us1 us2 (kI 3) (kR b116) (kR b117) (kR r1_132) (kI 2) (kI 1) (kI 0) (kI 0)) [])) _
          refine XS.iload X132.here hx rfl (hb hby at_209) rfl ?_
          refine XS.iconst X132.here hx rfl (hb hby at_211) ?_
          refine XS.icmpNo X132.here hx rfl (hb hby at_212) rfl (tlt (by decide : (1 : Int32) < (2 : Int32))).2.2.2 ?_
          show Steps _ _ _ (T132.setTop (mkF m 215 (Lq0 p1 p2 p3 p4 ucap us0 us1 us2 (kI 3) (kR b116) (kR b117) (kR r1_132) (kI 2) (kI 1) (kI 0) (kI 0)) [])) _
          refine XS.aload X132.here hx rfl (hb hby at_215) rfl rfl ?_
          refine XS.iconst X132.here hx rfl (hb hby at_217) ?_
          refine X132.iaload hx (j := (1 : Int32)) (v := (.int (1 : Int32))) (by exact A161.1) (State.isArrayOf_alike hZ.alike A161.2.1) A161.2.2 hin161 hat161 (g := (mkF m 218 (Lq0 p1 p2 p3 p4 ucap us0 us1 us2 (kI 3) (kR b116) (kR b117) (kR r1_132) (kI 2) (kI 1) (kI 0) (kI 0)) [(.int (1 : Int32)), (.ref r1_132)])) rfl rfl (hb hby at_218) _ ?_
          refine XS.istore X132.here hx rfl (hb hby at_219) rfl (l' := (Lq0 p1 p2 p3 p4 ucap us0 us1 us2 (kI 3) (kR b116) (kR b117) (kR r1_132) (kI 2) (kI 1) (kI 0) (kI 1))) rfl ?_
          show Steps _ _ _ (T132.setTop (mkF m 221 (Lq0 p1 p2 p3 p4 ucap us0 us1 us2 (kI 3) (kR b116) (kR b117) (kR r1_132) (kI 2) (kI 1) (kI 0) (kI 1)) [])) _
          refine XS.iload X132.here hx rfl (hb hby at_221) rfl ?_
          refine XS.iload X132.here hx rfl (hb hby at_223) rfl ?_
          refine XS.icmpNo X132.here hx rfl (hb hby at_225) rfl (tlt (by decide : (0 : Int32) < (1 : Int32))).2.2.2 ?_
          show Steps _ _ _ (T132.setTop (mkF m 228 (Lq0 p1 p2 p3 p4 ucap us0 us1 us2 (kI 3) (kR b116) (kR b117) (kR r1_132) (kI 2) (kI 1) (kI 0) (kI 1)) [])) _
          refine XS.iload X132.here hx rfl (hb hby at_228) rfl ?_
          refine XS.iload X132.here hx rfl (hb hby at_230) rfl ?_
          refine XS.icmpYes X132.here hx rfl (pc0 := 232) (pc' := 237) rfl (hb hby at_232) rfl (tlt (by decide : (1 : Int32) < (3 : Int32))).1 (by decide) (by decide) ?_
          show Steps _ _ _ (T132.setTop (mkF m 237 (Lq0 p1 p2 p3 p4 ucap us0 us1 us2 (kI 3) (kR b116) (kR b117) (kR r1_132) (kI 2) (kI 1) (kI 0) (kI 1)) [])) _
          refine XS.iload X132.here hx rfl (hb hby at_237) rfl ?_
          refine XS.iconst X132.here hx rfl (hb hby at_239) ?_
          refine XS.iload X132.here hx rfl (hb hby at_240) rfl ?_
          show Steps _ _ _ (T132.setTop (mkF m 242 (Lq0 p1 p2 p3 p4 ucap us0 us1 us2 (kI 3) (kR b116) (kR b117) (kR r1_132) (kI 2) (kI 1) (kI 0) (kI 1)) [(.int (1 : Int32)), (.int (1 : Int32)), (.int (1 : Int32))])) _
          refine XS.ishl X132.here hx rfl (hb hby at_242) rfl ?_
          refine XS.ior X132.here hx rfl (hb hby at_243) rfl ?_
          refine XS.istore X132.here hx rfl (hb hby at_244) rfl (l' := (Lq0 p1 p2 p3 p4 ucap us0 us1 us2 (kI 3) (kR b116) (kR b117) (kR r1_132) (kI 2) (kI 3) (kI 0) (kI 1))) rfl ?_
          show Steps _ _ _ (T132.setTop (mkF m 246 (Lq0 p1 p2 p3 p4 ucap us0 us1 us2 (kI 3) (kR b116) (kR b117) (kR r1_132) (kI 2) (kI 3) (kI 0) (kI 1)) [])) _
          refine XS.iload X132.here hx rfl (hb hby at_246) rfl ?_
          refine XS.istore X132.here hx rfl (hb hby at_248) rfl (l' := (Lq0 p1 p2 p3 p4 ucap us0 us1 us2 (kI 3) (kR b116) (kR b117) (kR r1_132) (kI 2) (kI 3) (kI 1) (kI 1))) rfl ?_
          refine XS.iload X132.here hx rfl (hb hby at_250) rfl ?_
          show Steps _ _ _ (T132.setTop (mkF m 252 (Lq0 p1 p2 p3 p4 ucap us0 us1 us2 (kI 3) (kR b116) (kR b117) (kR r1_132) (kI 2) (kI 3) (kI 1) (kI 1)) [(.int (2 : Int32))])) _
          refine XS.iconst X132.here hx rfl (hb hby at_252) ?_
          refine XS.icmpYes X132.here hx rfl (pc0 := 253) (pc' := 291) rfl (hb hby at_253) rfl (flt (by decide : ¬ ((2 : Int32) < (2 : Int32)))).2.2.2 (by decide) (by decide) ?_
          refine XS.iload X132.here hx rfl (hb hby at_291) rfl ?_
          show Steps _ _ _ (T132.setTop (mkF m 293 (Lq0 p1 p2 p3 p4 ucap us0 us1 us2 (kI 3) (kR b116) (kR b117) (kR r1_132) (kI 2) (kI 3) (kI 1) (kI 1)) [(.int (3 : Int32))])) _
          refine XS.iconst X132.here hx rfl (hb hby at_293) ?_
          refine XS.iand X132.here hx rfl (hb hby at_294) rfl ?_
          refine XS.ifNo X132.here hx rfl (hb hby at_295) rfl ((if0 _ _).trans (feq (by decide : ¬ ((1 : Int32) = (0 : Int32)))).1) ?_
          show Steps _ _ _ (T132.setTop (mkF m 298 (Lq0 p1 p2 p3 p4 ucap us0 us1 us2 (kI 3) (kR b116) (kR b117) (kR r1_132) (kI 2) (kI 3) (kI 1) (kI 1)) [])) _
          refine XS.lload X132.here hx rfl (hb hby at_298) rfl ?_
          refine XS.lconst X132.here hx rfl (hb hby at_300) ?_
          refine XS.lcmp X132.here hx rfl (hb hby at_301) rfl ?_
          show Steps _ _ _ (T132.setTop (mkF m 302 (Lq0 p1 p2 p3 p4 ucap us0 us1 us2 (kI 3) (kR b116) (kR b117) (kR r1_132) (kI 2) (kI 3) (kI 1) (kI 1)) [(.int (lcmpW (p2.toInt64) (0 : Int64)))])) _
          refine XS.ifYes X132.here hx rfl (pc0 := 302) (pc' := 307) rfl (hb hby at_302) rfl ((if0 _ _).trans (tlt hc162).2.2.1) (by decide) (by decide) ?_
          refine XS.iload X132.here hx rfl (hb hby at_307) rfl ?_
          refine XS.iconst X132.here hx rfl (hb hby at_309) ?_
          show Steps _ _ _ (T132.setTop (mkF m 310 (Lq0 p1 p2 p3 p4 ucap us0 us1 us2 (kI 3) (kR b116) (kR b117) (kR r1_132) (kI 2) (kI 3) (kI 1) (kI 1)) [(.int (2 : Int32)), (.int (3 : Int32))])) _
          refine XS.iand X132.here hx rfl (hb hby at_310) rfl ?_
          refine XS.ifNo X132.here hx rfl (hb hby at_311) rfl ((if0 _ _).trans (feq (by decide : ¬ ((2 : Int32) = (0 : Int32)))).1) ?_
          refine XS.lload X132.here hx rfl (hb hby at_314) rfl ?_
          show Steps _ _ _ (T132.setTop (mkF m 316 (Lq0 p1 p2 p3 p4 ucap us0 us1 us2 (kI 3) (kR b116) (kR b117) (kR r1_132) (kI 2) (kI 3) (kI 1) (kI 1)) [(.long (p3.toInt64))])) _
          refine XS.lconst X132.here hx rfl (hb hby at_316) ?_
          refine XS.lcmp X132.here hx rfl (hb hby at_317) rfl ?_
          refine XS.ifYes X132.here hx rfl (pc0 := 318) (pc' := 323) rfl (hb hby at_318) rfl ((if0 _ _).trans (tlt hc163).2.2.1) (by decide) (by decide) ?_
          show Steps _ _ _ (T132.setTop (mkF m 323 (Lq0 p1 p2 p3 p4 ucap us0 us1 us2 (kI 3) (kR b116) (kR b117) (kR r1_132) (kI 2) (kI 3) (kI 1) (kI 1)) [])) _
          refine XS.iload X132.here hx rfl (hb hby at_323) rfl ?_
          refine XS.iconst X132.here hx rfl (hb hby at_325) ?_
          refine XS.iand X132.here hx rfl (hb hby at_326) rfl ?_
          show Steps _ _ _ (T132.setTop (mkF m 327 (Lq0 p1 p2 p3 p4 ucap us0 us1 us2 (kI 3) (kR b116) (kR b117) (kR r1_132) (kI 2) (kI 3) (kI 1) (kI 1)) [(.int (0 : Int32))])) _
          refine XS.ifYes X132.here hx rfl (pc0 := 327) (pc' := 339) rfl (hb hby at_327) rfl ((if0 _ _).trans (teq (rfl : (0 : Int32) = (0 : Int32))).1) (by decide) (by decide) ?_
          exact k)
        have he165 := own_end_3_3 hcapL hsL0 hsL1 hsL2 (own_vrL p2) (own_vrL p3) (own_vrL p4) hg
        exact jn2 (T132, _, _, (3 : Int32), b116, b117, r1_132, (2 : Int32), (3 : Int32), (1 : Int32), .val (.int (1 : Int32))) ⟨he165.1, he165.2, (Or.inr (Or.inl ⟨_, rfl⟩)), (X132.more (by decide) (by decide)), rfl, N132, K136, fun t k => pre164 t k⟩
      · have Vr166 : AV Z T132.heap r1_132 .int (1 : Int32) [(.int (2 : Int32))] := by have q := P132_0; rw [hz, hvs] at q; exact q
        obtain ⟨cl167, A167, S167, Nl167, M167⟩ := id Vr166
        obtain ⟨cl168, A168, S168, Nl168, M168⟩ := id Vr166
        obtain ⟨cl169, A169, S169, Nl169, M169⟩ := id Vr166
        have hin169 : ¬ ((0 : Int32) < 0 ∨ cl169.slots.size ≤ ((0 : Int32)).toNatClampNeg) := AV.inb S169 Nl169 ⟨by decide, by decide⟩
        have hat169 : cl169.slots[((0 : Int32)).toNatClampNeg]? = some (.int (2 : Int32)) := AV.at S169 rfl
        have hc170 : (0 : Int32) < (lcmpW (p4.toInt64) (0 : Int64)) := by exact own_gt.mpr (Int64.lt_iff_toInt_lt.mpr (hg.2.2.1 rfl))
        have pre171 : ∀ t, Steps p.tables e below (T132.setTop (mkF m 339 (Lq0 p1 p2 p3 p4 ucap us0 us1 us2 (kI 3) (kR b116) (kR b117) (kR r1_132) (kI 1) (kI 4) (kI 2) (kI 2)) [])) t → Steps p.tables e below (s₁.setTop (entryFrame m #[(.int p1), (.int p2), (.int p3), (.int p4)] maxLocals)) t := fun t k => pre137 t (by
          show Steps _ _ _ (T132.setTop (mkF m 141 (Lq0 p1 p2 p3 p4 ucap us0 us1 us2 (kI 3) (kR b116) (kR b117) kU kU kU kU kU) [(.ref r1_132)])) _
          refine XS.astore X132.here hx rfl (hb hby at_141) rfl rfl (l' := (Lq0 p1 p2 p3 p4 ucap us0 us1 us2 (kI 3) (kR b116) (kR b117) (kR r1_132) kU kU kU kU)) rfl ?_
          refine XS.aload X132.here hx rfl (hb hby at_143) rfl rfl ?_
          show Steps _ _ _ (T132.setTop (mkF m 145 (Lq0 p1 p2 p3 p4 ucap us0 us1 us2 (kI 3) (kR b116) (kR b117) (kR r1_132) kU kU kU kU) [(.ref r1_132)])) _
          refine XS.ifnullNo X132.here hx rfl (hb hby at_145) rfl ?_
          refine XS.aload X132.here hx rfl (hb hby at_148) rfl rfl ?_
          refine X132.arraylength hx (by exact A167.1) (State.isArrayOf_alike hZ.alike A167.2.1) (g := (mkF m 150 (Lq0 p1 p2 p3 p4 ucap us0 us1 us2 (kI 3) (kR b116) (kR b117) (kR r1_132) kU kU kU kU) [(.ref r1_132)])) rfl rfl (hb hby at_150) _ ?_
          rw [AV.len S167 Nl167 M167]
          refine XS.iload X132.here hx rfl (hb hby at_151) rfl ?_
          show Steps _ _ _ (T132.setTop (mkF m 153 (Lq0 p1 p2 p3 p4 ucap us0 us1 us2 (kI 3) (kR b116) (kR b117) (kR r1_132) kU kU kU kU) [(.int (3 : Int32)), (.int (1 : Int32))])) _
          refine XS.icmpYes X132.here hx rfl (pc0 := 153) (pc' := 158) rfl (hb hby at_153) rfl (flt (by decide : ¬ ((3 : Int32) < (1 : Int32)))).2.2.2 (by decide) (by decide) ?_
          refine XS.aload X132.here hx rfl (hb hby at_158) rfl rfl ?_
          refine X132.arraylength hx (by exact A168.1) (State.isArrayOf_alike hZ.alike A168.2.1) (g := (mkF m 160 (Lq0 p1 p2 p3 p4 ucap us0 us1 us2 (kI 3) (kR b116) (kR b117) (kR r1_132) kU kU kU kU) [(.ref r1_132)])) rfl rfl (hb hby at_160) _ ?_
          rw [AV.len S168 Nl168 M168]
          refine XS.istore X132.here hx rfl (hb hby at_161) rfl (l' := (Lq0 p1 p2 p3 p4 ucap us0 us1 us2 (kI 3) (kR b116) (kR b117) (kR r1_132) (kI 1) kU kU kU)) rfl ?_
          show Steps _ _ _ (T132.setTop (mkF m 163 (Lq0 p1 p2 p3 p4 ucap us0 us1 us2 (kI 3) (kR b116) (kR b117) (kR r1_132) (kI 1) kU kU kU) [])) _
          refine XS.iconst X132.here hx rfl (hb hby at_163) ?_
          refine XS.istore X132.here hx rfl (hb hby at_164) rfl (l' := (Lq0 p1 p2 p3 p4 ucap us0 us1 us2 (kI 3) (kR b116) (kR b117) (kR r1_132) (kI 1) (kI 0) kU kU)) rfl ?_
          refine XS.iconst X132.here hx rfl (hb hby at_166) ?_
          show Steps _ _ _ (T132.setTop (mkF m 167 (Lq0 p1 p2 p3 p4 ucap us0 us1 us2 (kI 3) (kR b116) (kR b117) (kR r1_132) (kI 1) (kI 0) kU kU) [(.int (-1 : Int32))])) _
          refine XS.istore X132.here hx rfl (hb hby at_167) rfl (l' := (Lq0 p1 p2 p3 p4 ucap us0 us1 us2 (kI 3) (kR b116) (kR b117) (kR r1_132) (kI 1) (kI 0) (kI (-1)) kU)) rfl ?_
          refine XS.iload X132.here hx rfl (hb hby at_169) rfl ?_
          refine XS.ifNo X132.here hx rfl (hb hby at_171) rfl ((if0 _ _).trans (tlt (by decide : (0 : Int32) < (1 : Int32))).2.2.2) ?_
          show Steps _ _ _ (T132.setTop (mkF m 174 (Lq0 p1 p2 p3 p4 ucap us0 us1 us2 (kI 3) (kR b116) (kR b117) (kR r1_132) (kI 1) (kI 0) (kI (-1)) kU) [])) _
          refine XS.aload X132.here hx rfl (hb hby at_174) rfl rfl ?_
          refine XS.iconst X132.here hx rfl (hb hby at_176) ?_
          refine X132.iaload hx (j := (0 : Int32)) (v := (.int (2 : Int32))) (by exact A169.1) (State.isArrayOf_alike hZ.alike A169.2.1) A169.2.2 hin169 hat169 (g := (mkF m 177 (Lq0 p1 p2 p3 p4 ucap us0 us1 us2 (kI 3) (kR b116) (kR b117) (kR r1_132) (kI 1) (kI 0) (kI (-1)) kU) [(.int (0 : Int32)), (.ref r1_132)])) rfl rfl (hb hby at_177) _ ?_
          refine XS.istore X132.here hx rfl (hb hby at_178) rfl (l' := (Lq0 p1 p2 p3 p4 ucap us0 us1 us2 (kI 3) (kR b116) (kR b117) (kR r1_132) (kI 1) (kI 0) (kI (-1)) (kI 2))) rfl ?_
          show Steps _ _ _ (T132.setTop (mkF m 180 (Lq0 p1 p2 p3 p4 ucap us0 us1 us2 (kI 3) (kR b116) (kR b117) (kR r1_132) (kI 1) (kI 0) (kI (-1)) (kI 2)) [])) _
          refine XS.iload X132.here hx rfl (hb hby at_180) rfl ?_
          refine XS.iload X132.here hx rfl (hb hby at_182) rfl ?_
          refine XS.icmpNo X132.here hx rfl (hb hby at_184) rfl (tlt (by decide : (-1 : Int32) < (2 : Int32))).2.2.2 ?_
          show Steps _ _ _ (T132.setTop (mkF m 187 (Lq0 p1 p2 p3 p4 ucap us0 us1 us2 (kI 3) (kR b116) (kR b117) (kR r1_132) (kI 1) (kI 0) (kI (-1)) (kI 2)) [])) _
          refine XS.iload X132.here hx rfl (hb hby at_187) rfl ?_
          refine XS.iload X132.here hx rfl (hb hby at_189) rfl ?_
          refine XS.icmpYes X132.here hx rfl (pc0 := 191) (pc' := 196) rfl (hb hby at_191) rfl (tlt (by decide : (2 : Int32) < (3 : Int32))).1 (by decide) (by decide) ?_
          show Steps _ _ _ (T132.setTop (mkF m 196 (Lq0 p1 p2 p3 p4 ucap us0 us1 us2 (kI 3) (kR b116) (kR b117) (kR r1_132) (kI 1) (kI 0) (kI (-1)) (kI 2)) [])) _
          refine XS.iload X132.here hx rfl (hb hby at_196) rfl ?_
          refine XS.iconst X132.here hx rfl (hb hby at_198) ?_
          refine XS.iload X132.here hx rfl (hb hby at_199) rfl ?_
          show Steps _ _ _ (T132.setTop (mkF m 201 (Lq0 p1 p2 p3 p4 ucap us0 us1 us2 (kI 3) (kR b116) (kR b117) (kR r1_132) (kI 1) (kI 0) (kI (-1)) (kI 2)) [(.int (2 : Int32)), (.int (1 : Int32)), (.int (0 : Int32))])) _
          refine XS.ishl X132.here hx rfl (hb hby at_201) rfl ?_
          refine XS.ior X132.here hx rfl (hb hby at_202) rfl ?_
          refine XS.istore X132.here hx rfl (hb hby at_203) rfl (l' := (Lq0 p1 p2 p3 p4 ucap us0 us1 us2 (kI 3) (kR b116) (kR b117) (kR r1_132) (kI 1) (kI 4) (kI (-1)) (kI 2))) rfl ?_
          show Steps _ _ _ (T132.setTop (mkF m 205 (Lq0 p1 p2 p3 p4 ucap us0 us1 us2 (kI 3) (kR b116) (kR b117) (kR r1_132) (kI 1) (kI 4) (kI (-1)) (kI 2)) [])) _
          refine XS.iload X132.here hx rfl (hb hby at_205) rfl ?_
          refine XS.istore X132.here hx rfl (hb hby at_207) rfl (l' := (Lq0 p1 p2 p3 p4 ucap us0 us1 us2 (kI 3) (kR b116) (kR b117) (kR r1_132) (kI 1) (kI 4) (kI 2) (kI 2))) rfl ?_
          refine XS.iload X132.here hx rfl (hb hby at_209) rfl ?_
          show Steps _ _ _ (T132.setTop (mkF m 211 (Lq0 p1 p2 p3 p4 ucap us0 us1 us2 (kI 3) (kR b116) (kR b117) (kR r1_132) (kI 1) (kI 4) (kI 2) (kI 2)) [(.int (1 : Int32))])) _
          refine XS.iconst X132.here hx rfl (hb hby at_211) ?_
          refine XS.icmpYes X132.here hx rfl (pc0 := 212) (pc' := 250) rfl (hb hby at_212) rfl (flt (by decide : ¬ ((1 : Int32) < (1 : Int32)))).2.2.2 (by decide) (by decide) ?_
          refine XS.iload X132.here hx rfl (hb hby at_250) rfl ?_
          show Steps _ _ _ (T132.setTop (mkF m 252 (Lq0 p1 p2 p3 p4 ucap us0 us1 us2 (kI 3) (kR b116) (kR b117) (kR r1_132) (kI 1) (kI 4) (kI 2) (kI 2)) [(.int (1 : Int32))])) _
          refine XS.iconst X132.here hx rfl (hb hby at_252) ?_
          refine XS.icmpYes X132.here hx rfl (pc0 := 253) (pc' := 291) rfl (hb hby at_253) rfl (flt (by decide : ¬ ((2 : Int32) < (1 : Int32)))).2.2.2 (by decide) (by decide) ?_
          refine XS.iload X132.here hx rfl (hb hby at_291) rfl ?_
          show Steps _ _ _ (T132.setTop (mkF m 293 (Lq0 p1 p2 p3 p4 ucap us0 us1 us2 (kI 3) (kR b116) (kR b117) (kR r1_132) (kI 1) (kI 4) (kI 2) (kI 2)) [(.int (4 : Int32))])) _
          refine XS.iconst X132.here hx rfl (hb hby at_293) ?_
          refine XS.iand X132.here hx rfl (hb hby at_294) rfl ?_
          refine XS.ifYes X132.here hx rfl (pc0 := 295) (pc' := 307) rfl (hb hby at_295) rfl ((if0 _ _).trans (teq (rfl : (0 : Int32) = (0 : Int32))).1) (by decide) (by decide) ?_
          show Steps _ _ _ (T132.setTop (mkF m 307 (Lq0 p1 p2 p3 p4 ucap us0 us1 us2 (kI 3) (kR b116) (kR b117) (kR r1_132) (kI 1) (kI 4) (kI 2) (kI 2)) [])) _
          refine XS.iload X132.here hx rfl (hb hby at_307) rfl ?_
          refine XS.iconst X132.here hx rfl (hb hby at_309) ?_
          refine XS.iand X132.here hx rfl (hb hby at_310) rfl ?_
          show Steps _ _ _ (T132.setTop (mkF m 311 (Lq0 p1 p2 p3 p4 ucap us0 us1 us2 (kI 3) (kR b116) (kR b117) (kR r1_132) (kI 1) (kI 4) (kI 2) (kI 2)) [(.int (0 : Int32))])) _
          refine XS.ifYes X132.here hx rfl (pc0 := 311) (pc' := 323) rfl (hb hby at_311) rfl ((if0 _ _).trans (teq (rfl : (0 : Int32) = (0 : Int32))).1) (by decide) (by decide) ?_
          refine XS.iload X132.here hx rfl (hb hby at_323) rfl ?_
          refine XS.iconst X132.here hx rfl (hb hby at_325) ?_
          show Steps _ _ _ (T132.setTop (mkF m 326 (Lq0 p1 p2 p3 p4 ucap us0 us1 us2 (kI 3) (kR b116) (kR b117) (kR r1_132) (kI 1) (kI 4) (kI 2) (kI 2)) [(.int (4 : Int32)), (.int (4 : Int32))])) _
          refine XS.iand X132.here hx rfl (hb hby at_326) rfl ?_
          refine XS.ifNo X132.here hx rfl (hb hby at_327) rfl ((if0 _ _).trans (feq (by decide : ¬ ((4 : Int32) = (0 : Int32)))).1) ?_
          refine XS.lload X132.here hx rfl (hb hby at_330) rfl ?_
          show Steps _ _ _ (T132.setTop (mkF m 332 (Lq0 p1 p2 p3 p4 ucap us0 us1 us2 (kI 3) (kR b116) (kR b117) (kR r1_132) (kI 1) (kI 4) (kI 2) (kI 2)) [(.long (p4.toInt64))])) _
          refine XS.lconst X132.here hx rfl (hb hby at_332) ?_
          refine XS.lcmp X132.here hx rfl (hb hby at_333) rfl ?_
          refine XS.ifYes X132.here hx rfl (pc0 := 334) (pc' := 339) rfl (hb hby at_334) rfl ((if0 _ _).trans (tlt hc170).2.2.1) (by decide) (by decide) ?_
          exact k)
        have he172 := own_end_3_4 hcapL hsL0 hsL1 hsL2 (own_vrL p2) (own_vrL p3) (own_vrL p4) hg
        exact jn2 (T132, _, _, (3 : Int32), b116, b117, r1_132, (1 : Int32), (4 : Int32), (2 : Int32), .val (.int (2 : Int32))) ⟨he172.1, he172.2, (Or.inr (Or.inl ⟨_, rfl⟩)), (X132.more (by decide) (by decide)), rfl, N132, K136, fun t k => pre171 t k⟩
      · have Vr173 : AV Z T132.heap r1_132 .int (2 : Int32) [(.int (0 : Int32)), (.int (2 : Int32))] := by have q := P132_0; rw [hz, hvs] at q; exact q
        obtain ⟨cl174, A174, S174, Nl174, M174⟩ := id Vr173
        obtain ⟨cl175, A175, S175, Nl175, M175⟩ := id Vr173
        obtain ⟨cl176, A176, S176, Nl176, M176⟩ := id Vr173
        have hin176 : ¬ ((0 : Int32) < 0 ∨ cl176.slots.size ≤ ((0 : Int32)).toNatClampNeg) := AV.inb S176 Nl176 ⟨by decide, by decide⟩
        have hat176 : cl176.slots[((0 : Int32)).toNatClampNeg]? = some (.int (0 : Int32)) := AV.at S176 rfl
        obtain ⟨cl177, A177, S177, Nl177, M177⟩ := id Vr173
        have hin177 : ¬ ((1 : Int32) < 0 ∨ cl177.slots.size ≤ ((1 : Int32)).toNatClampNeg) := AV.inb S177 Nl177 ⟨by decide, by decide⟩
        have hat177 : cl177.slots[((1 : Int32)).toNatClampNeg]? = some (.int (2 : Int32)) := AV.at S177 rfl
        have hc178 : (0 : Int32) < (lcmpW (p2.toInt64) (0 : Int64)) := by exact own_gt.mpr (Int64.lt_iff_toInt_lt.mpr (hg.1 rfl))
        have hc179 : (0 : Int32) < (lcmpW (p4.toInt64) (0 : Int64)) := by exact own_gt.mpr (Int64.lt_iff_toInt_lt.mpr (hg.2.2.1 rfl))
        have pre180 : ∀ t, Steps p.tables e below (T132.setTop (mkF m 339 (Lq0 p1 p2 p3 p4 ucap us0 us1 us2 (kI 3) (kR b116) (kR b117) (kR r1_132) (kI 2) (kI 5) (kI 2) (kI 2)) [])) t → Steps p.tables e below (s₁.setTop (entryFrame m #[(.int p1), (.int p2), (.int p3), (.int p4)] maxLocals)) t := fun t k => pre137 t (by
          show Steps _ _ _ (T132.setTop (mkF m 141 (Lq0 p1 p2 p3 p4 ucap us0 us1 us2 (kI 3) (kR b116) (kR b117) kU kU kU kU kU) [(.ref r1_132)])) _
          refine XS.astore X132.here hx rfl (hb hby at_141) rfl rfl (l' := (Lq0 p1 p2 p3 p4 ucap us0 us1 us2 (kI 3) (kR b116) (kR b117) (kR r1_132) kU kU kU kU)) rfl ?_
          refine XS.aload X132.here hx rfl (hb hby at_143) rfl rfl ?_
          refine XS.ifnullNo X132.here hx rfl (hb hby at_145) rfl ?_
          show Steps _ _ _ (T132.setTop (mkF m 148 (Lq0 p1 p2 p3 p4 ucap us0 us1 us2 (kI 3) (kR b116) (kR b117) (kR r1_132) kU kU kU kU) [])) _
          refine XS.aload X132.here hx rfl (hb hby at_148) rfl rfl ?_
          refine X132.arraylength hx (by exact A174.1) (State.isArrayOf_alike hZ.alike A174.2.1) (g := (mkF m 150 (Lq0 p1 p2 p3 p4 ucap us0 us1 us2 (kI 3) (kR b116) (kR b117) (kR r1_132) kU kU kU kU) [(.ref r1_132)])) rfl rfl (hb hby at_150) _ ?_
          rw [AV.len S174 Nl174 M174]
          refine XS.iload X132.here hx rfl (hb hby at_151) rfl ?_
          refine XS.icmpYes X132.here hx rfl (pc0 := 153) (pc' := 158) rfl (hb hby at_153) rfl (flt (by decide : ¬ ((3 : Int32) < (2 : Int32)))).2.2.2 (by decide) (by decide) ?_
          show Steps _ _ _ (T132.setTop (mkF m 158 (Lq0 p1 p2 p3 p4 ucap us0 us1 us2 (kI 3) (kR b116) (kR b117) (kR r1_132) kU kU kU kU) [])) _
          refine XS.aload X132.here hx rfl (hb hby at_158) rfl rfl ?_
          refine X132.arraylength hx (by exact A175.1) (State.isArrayOf_alike hZ.alike A175.2.1) (g := (mkF m 160 (Lq0 p1 p2 p3 p4 ucap us0 us1 us2 (kI 3) (kR b116) (kR b117) (kR r1_132) kU kU kU kU) [(.ref r1_132)])) rfl rfl (hb hby at_160) _ ?_
          rw [AV.len S175 Nl175 M175]
          refine XS.istore X132.here hx rfl (hb hby at_161) rfl (l' := (Lq0 p1 p2 p3 p4 ucap us0 us1 us2 (kI 3) (kR b116) (kR b117) (kR r1_132) (kI 2) kU kU kU)) rfl ?_
          refine XS.iconst X132.here hx rfl (hb hby at_163) ?_
          show Steps _ _ _ (T132.setTop (mkF m 164 (Lq0 p1 p2 p3 p4 ucap us0 us1 us2 (kI 3) (kR b116) (kR b117) (kR r1_132) (kI 2) kU kU kU) [(.int (0 : Int32))])) _
          refine XS.istore X132.here hx rfl (hb hby at_164) rfl (l' := (Lq0 p1 p2 p3 p4 ucap us0 us1 us2 (kI 3) (kR b116) (kR b117) (kR r1_132) (kI 2) (kI 0) kU kU)) rfl ?_
          refine XS.iconst X132.here hx rfl (hb hby at_166) ?_
          refine XS.istore X132.here hx rfl (hb hby at_167) rfl (l' := (Lq0 p1 p2 p3 p4 ucap us0 us1 us2 (kI 3) (kR b116) (kR b117) (kR r1_132) (kI 2) (kI 0) (kI (-1)) kU)) rfl ?_
          show Steps _ _ _ (T132.setTop (mkF m 169 (Lq0 p1 p2 p3 p4 ucap us0 us1 us2 (kI 3) (kR b116) (kR b117) (kR r1_132) (kI 2) (kI 0) (kI (-1)) kU) [])) _
          refine XS.iload X132.here hx rfl (hb hby at_169) rfl ?_
          refine XS.ifNo X132.here hx rfl (hb hby at_171) rfl ((if0 _ _).trans (tlt (by decide : (0 : Int32) < (2 : Int32))).2.2.2) ?_
          refine XS.aload X132.here hx rfl (hb hby at_174) rfl rfl ?_
          show Steps _ _ _ (T132.setTop (mkF m 176 (Lq0 p1 p2 p3 p4 ucap us0 us1 us2 (kI 3) (kR b116) (kR b117) (kR r1_132) (kI 2) (kI 0) (kI (-1)) kU) [(.ref r1_132)])) _
          refine XS.iconst X132.here hx rfl (hb hby at_176) ?_
          refine X132.iaload hx (j := (0 : Int32)) (v := (.int (0 : Int32))) (by exact A176.1) (State.isArrayOf_alike hZ.alike A176.2.1) A176.2.2 hin176 hat176 (g := (mkF m 177 (Lq0 p1 p2 p3 p4 ucap us0 us1 us2 (kI 3) (kR b116) (kR b117) (kR r1_132) (kI 2) (kI 0) (kI (-1)) kU) [(.int (0 : Int32)), (.ref r1_132)])) rfl rfl (hb hby at_177) _ ?_
          refine XS.istore X132.here hx rfl (hb hby at_178) rfl (l' := (Lq0 p1 p2 p3 p4 ucap us0 us1 us2 (kI 3) (kR b116) (kR b117) (kR r1_132) (kI 2) (kI 0) (kI (-1)) (kI 0))) rfl ?_
          refine XS.iload X132.here hx rfl (hb hby at_180) rfl ?_
          show Steps _ _ _ (T132.setTop (mkF m 182 (Lq0 p1 p2 p3 p4 ucap us0 us1 us2 (kI 3) (kR b116) (kR b117) (kR r1_132) (kI 2) (kI 0) (kI (-1)) (kI 0)) [(.int (0 : Int32))])) _
          refine XS.iload X132.here hx rfl (hb hby at_182) rfl ?_
          refine XS.icmpNo X132.here hx rfl (hb hby at_184) rfl (tlt (by decide : (-1 : Int32) < (0 : Int32))).2.2.2 ?_
          refine XS.iload X132.here hx rfl (hb hby at_187) rfl ?_
          show Steps _ _ _ (T132.setTop (mkF m 189 (Lq0 p1 p2 p3 p4 ucap us0 us1 us2 (kI 3) (kR b116) (kR b117) (kR r1_132) (kI 2) (kI 0) (kI (-1)) (kI 0)) [(.int (0 : Int32))])) _
          refine XS.iload X132.here hx rfl (hb hby at_189) rfl ?_
          refine XS.icmpYes X132.here hx rfl (pc0 := 191) (pc' := 196) rfl (hb hby at_191) rfl (tlt (by decide : (0 : Int32) < (3 : Int32))).1 (by decide) (by decide) ?_
          refine XS.iload X132.here hx rfl (hb hby at_196) rfl ?_
          show Steps _ _ _ (T132.setTop (mkF m 198 (Lq0 p1 p2 p3 p4 ucap us0 us1 us2 (kI 3) (kR b116) (kR b117) (kR r1_132) (kI 2) (kI 0) (kI (-1)) (kI 0)) [(.int (0 : Int32))])) _
          refine XS.iconst X132.here hx rfl (hb hby at_198) ?_
          refine XS.iload X132.here hx rfl (hb hby at_199) rfl ?_
          refine XS.ishl X132.here hx rfl (hb hby at_201) rfl ?_
          show Steps _ _ _ (T132.setTop (mkF m 202 (Lq0 p1 p2 p3 p4 ucap us0 us1 us2 (kI 3) (kR b116) (kR b117) (kR r1_132) (kI 2) (kI 0) (kI (-1)) (kI 0)) [(.int (1 : Int32)), (.int (0 : Int32))])) _
          refine XS.ior X132.here hx rfl (hb hby at_202) rfl ?_
          refine XS.istore X132.here hx rfl (hb hby at_203) rfl (l' := (Lq0 p1 p2 p3 p4 ucap us0 us1 us2 (kI 3) (kR b116) (kR b117) (kR r1_132) (kI 2) (kI 1) (kI (-1)) (kI 0))) rfl ?_
          refine XS.iload X132.here hx rfl (hb hby at_205) rfl ?_
          show Steps _ _ _ (T132.setTop (mkF m 207 (Lq0 p1 p2 p3 p4 ucap us0 us1 us2 (kI 3) (kR b116) (kR b117) (kR r1_132) (kI 2) (kI 1) (kI (-1)) (kI 0)) [(.int (0 : Int32))])) _
          refine XS.istore X132.here hx rfl (hb hby at_207) rfl (l' := (Lq0 p1 p2 p3 p4 ucap us0 us1 us2 (kI 3) (kR b116) (kR b117) (kR r1_132) (kI 2) (kI 1) (kI 0) (kI 0))) rfl ?_
          refine XS.iload X132.here hx rfl (hb hby at_209) rfl ?_
          refine XS.iconst X132.here hx rfl (hb hby at_211) ?_
          show Steps _ _ _ (T132.setTop (mkF m 212 (Lq0 p1 p2 p3 p4 ucap us0 us1 us2 (kI 3) (kR b116) (kR b117) (kR r1_132) (kI 2) (kI 1) (kI 0) (kI 0)) [(.int (1 : Int32)), (.int (2 : Int32))])) _
          refine XS.icmpNo X132.here hx rfl (hb hby at_212) rfl (tlt (by decide : (1 : Int32) < (2 : Int32))).2.2.2 ?_
          refine XS.aload X132.here hx rfl (hb hby at_215) rfl rfl ?_
          refine XS.iconst X132.here hx rfl (hb hby at_217) ?_
          refine X132.iaload hx (j := (1 : Int32)) (v := (.int (2 : Int32))) (by exact A177.1) (State.isArrayOf_alike hZ.alike A177.2.1) A177.2.2 hin177 hat177 (g := (mkF m 218 (Lq0 p1 p2 p3 p4 ucap us0 us1 us2 (kI 3) (kR b116) (kR b117) (kR r1_132) (kI 2) (kI 1) (kI 0) (kI 0)) [(.int (1 : Int32)), (.ref r1_132)])) rfl rfl (hb hby at_218) _ ?_
          show Steps _ _ _ (T132.setTop (mkF m 219 (Lq0 p1 p2 p3 p4 ucap us0 us1 us2 (kI 3) (kR b116) (kR b117) (kR r1_132) (kI 2) (kI 1) (kI 0) (kI 0)) [(.int (2 : Int32))])) _
          refine XS.istore X132.here hx rfl (hb hby at_219) rfl (l' := (Lq0 p1 p2 p3 p4 ucap us0 us1 us2 (kI 3) (kR b116) (kR b117) (kR r1_132) (kI 2) (kI 1) (kI 0) (kI 2))) rfl ?_
          refine XS.iload X132.here hx rfl (hb hby at_221) rfl ?_
          refine XS.iload X132.here hx rfl (hb hby at_223) rfl ?_
          show Steps _ _ _ (T132.setTop (mkF m 225 (Lq0 p1 p2 p3 p4 ucap us0 us1 us2 (kI 3) (kR b116) (kR b117) (kR r1_132) (kI 2) (kI 1) (kI 0) (kI 2)) [(.int (0 : Int32)), (.int (2 : Int32))])) _
          refine XS.icmpNo X132.here hx rfl (hb hby at_225) rfl (tlt (by decide : (0 : Int32) < (2 : Int32))).2.2.2 ?_
          refine XS.iload X132.here hx rfl (hb hby at_228) rfl ?_
          refine XS.iload X132.here hx rfl (hb hby at_230) rfl ?_
          show Steps _ _ _ (T132.setTop (mkF m 232 (Lq0 p1 p2 p3 p4 ucap us0 us1 us2 (kI 3) (kR b116) (kR b117) (kR r1_132) (kI 2) (kI 1) (kI 0) (kI 2)) [(.int (3 : Int32)), (.int (2 : Int32))])) _
          refine XS.icmpYes X132.here hx rfl (pc0 := 232) (pc' := 237) rfl (hb hby at_232) rfl (tlt (by decide : (2 : Int32) < (3 : Int32))).1 (by decide) (by decide) ?_
          refine XS.iload X132.here hx rfl (hb hby at_237) rfl ?_
          refine XS.iconst X132.here hx rfl (hb hby at_239) ?_
          show Steps _ _ _ (T132.setTop (mkF m 240 (Lq0 p1 p2 p3 p4 ucap us0 us1 us2 (kI 3) (kR b116) (kR b117) (kR r1_132) (kI 2) (kI 1) (kI 0) (kI 2)) [(.int (1 : Int32)), (.int (1 : Int32))])) _
          refine XS.iload X132.here hx rfl (hb hby at_240) rfl ?_
          refine XS.ishl X132.here hx rfl (hb hby at_242) rfl ?_
          refine XS.ior X132.here hx rfl (hb hby at_243) rfl ?_
          show Steps _ _ _ (T132.setTop (mkF m 244 (Lq0 p1 p2 p3 p4 ucap us0 us1 us2 (kI 3) (kR b116) (kR b117) (kR r1_132) (kI 2) (kI 1) (kI 0) (kI 2)) [(.int (5 : Int32))])) _
          refine XS.istore X132.here hx rfl (hb hby at_244) rfl (l' := (Lq0 p1 p2 p3 p4 ucap us0 us1 us2 (kI 3) (kR b116) (kR b117) (kR r1_132) (kI 2) (kI 5) (kI 0) (kI 2))) rfl ?_
          refine XS.iload X132.here hx rfl (hb hby at_246) rfl ?_
          refine XS.istore X132.here hx rfl (hb hby at_248) rfl (l' := (Lq0 p1 p2 p3 p4 ucap us0 us1 us2 (kI 3) (kR b116) (kR b117) (kR r1_132) (kI 2) (kI 5) (kI 2) (kI 2))) rfl ?_
          show Steps _ _ _ (T132.setTop (mkF m 250 (Lq0 p1 p2 p3 p4 ucap us0 us1 us2 (kI 3) (kR b116) (kR b117) (kR r1_132) (kI 2) (kI 5) (kI 2) (kI 2)) [])) _
          refine XS.iload X132.here hx rfl (hb hby at_250) rfl ?_
          refine XS.iconst X132.here hx rfl (hb hby at_252) ?_
          refine XS.icmpYes X132.here hx rfl (pc0 := 253) (pc' := 291) rfl (hb hby at_253) rfl (flt (by decide : ¬ ((2 : Int32) < (2 : Int32)))).2.2.2 (by decide) (by decide) ?_
          show Steps _ _ _ (T132.setTop (mkF m 291 (Lq0 p1 p2 p3 p4 ucap us0 us1 us2 (kI 3) (kR b116) (kR b117) (kR r1_132) (kI 2) (kI 5) (kI 2) (kI 2)) [])) _
          refine XS.iload X132.here hx rfl (hb hby at_291) rfl ?_
          refine XS.iconst X132.here hx rfl (hb hby at_293) ?_
          refine XS.iand X132.here hx rfl (hb hby at_294) rfl ?_
          show Steps _ _ _ (T132.setTop (mkF m 295 (Lq0 p1 p2 p3 p4 ucap us0 us1 us2 (kI 3) (kR b116) (kR b117) (kR r1_132) (kI 2) (kI 5) (kI 2) (kI 2)) [(.int (1 : Int32))])) _
          refine XS.ifNo X132.here hx rfl (hb hby at_295) rfl ((if0 _ _).trans (feq (by decide : ¬ ((1 : Int32) = (0 : Int32)))).1) ?_
          refine XS.lload X132.here hx rfl (hb hby at_298) rfl ?_
          refine XS.lconst X132.here hx rfl (hb hby at_300) ?_
          show Steps _ _ _ (T132.setTop (mkF m 301 (Lq0 p1 p2 p3 p4 ucap us0 us1 us2 (kI 3) (kR b116) (kR b117) (kR r1_132) (kI 2) (kI 5) (kI 2) (kI 2)) [(.long (0 : Int64)), (.long (p2.toInt64))])) _
          refine XS.lcmp X132.here hx rfl (hb hby at_301) rfl ?_
          refine XS.ifYes X132.here hx rfl (pc0 := 302) (pc' := 307) rfl (hb hby at_302) rfl ((if0 _ _).trans (tlt hc178).2.2.1) (by decide) (by decide) ?_
          refine XS.iload X132.here hx rfl (hb hby at_307) rfl ?_
          show Steps _ _ _ (T132.setTop (mkF m 309 (Lq0 p1 p2 p3 p4 ucap us0 us1 us2 (kI 3) (kR b116) (kR b117) (kR r1_132) (kI 2) (kI 5) (kI 2) (kI 2)) [(.int (5 : Int32))])) _
          refine XS.iconst X132.here hx rfl (hb hby at_309) ?_
          refine XS.iand X132.here hx rfl (hb hby at_310) rfl ?_
          refine XS.ifYes X132.here hx rfl (pc0 := 311) (pc' := 323) rfl (hb hby at_311) rfl ((if0 _ _).trans (teq (rfl : (0 : Int32) = (0 : Int32))).1) (by decide) (by decide) ?_
          show Steps _ _ _ (T132.setTop (mkF m 323 (Lq0 p1 p2 p3 p4 ucap us0 us1 us2 (kI 3) (kR b116) (kR b117) (kR r1_132) (kI 2) (kI 5) (kI 2) (kI 2)) [])) _
          refine XS.iload X132.here hx rfl (hb hby at_323) rfl ?_
          refine XS.iconst X132.here hx rfl (hb hby at_325) ?_
          refine XS.iand X132.here hx rfl (hb hby at_326) rfl ?_
          show Steps _ _ _ (T132.setTop (mkF m 327 (Lq0 p1 p2 p3 p4 ucap us0 us1 us2 (kI 3) (kR b116) (kR b117) (kR r1_132) (kI 2) (kI 5) (kI 2) (kI 2)) [(.int (4 : Int32))])) _
          refine XS.ifNo X132.here hx rfl (hb hby at_327) rfl ((if0 _ _).trans (feq (by decide : ¬ ((4 : Int32) = (0 : Int32)))).1) ?_
          refine XS.lload X132.here hx rfl (hb hby at_330) rfl ?_
          refine XS.lconst X132.here hx rfl (hb hby at_332) ?_
          show Steps _ _ _ (T132.setTop (mkF m 333 (Lq0 p1 p2 p3 p4 ucap us0 us1 us2 (kI 3) (kR b116) (kR b117) (kR r1_132) (kI 2) (kI 5) (kI 2) (kI 2)) [(.long (0 : Int64)), (.long (p4.toInt64))])) _
          refine XS.lcmp X132.here hx rfl (hb hby at_333) rfl ?_
          refine XS.ifYes X132.here hx rfl (pc0 := 334) (pc' := 339) rfl (hb hby at_334) rfl ((if0 _ _).trans (tlt hc179).2.2.1) (by decide) (by decide) ?_
          exact k)
        have he181 := own_end_3_5 hcapL hsL0 hsL1 hsL2 (own_vrL p2) (own_vrL p3) (own_vrL p4) hg
        exact jn2 (T132, _, _, (3 : Int32), b116, b117, r1_132, (2 : Int32), (5 : Int32), (2 : Int32), .val (.int (2 : Int32))) ⟨he181.1, he181.2, (Or.inr (Or.inl ⟨_, rfl⟩)), (X132.more (by decide) (by decide)), rfl, N132, K136, fun t k => pre180 t k⟩
      · have Vr182 : AV Z T132.heap r1_132 .int (2 : Int32) [(.int (1 : Int32)), (.int (2 : Int32))] := by have q := P132_0; rw [hz, hvs] at q; exact q
        obtain ⟨cl183, A183, S183, Nl183, M183⟩ := id Vr182
        obtain ⟨cl184, A184, S184, Nl184, M184⟩ := id Vr182
        obtain ⟨cl185, A185, S185, Nl185, M185⟩ := id Vr182
        have hin185 : ¬ ((0 : Int32) < 0 ∨ cl185.slots.size ≤ ((0 : Int32)).toNatClampNeg) := AV.inb S185 Nl185 ⟨by decide, by decide⟩
        have hat185 : cl185.slots[((0 : Int32)).toNatClampNeg]? = some (.int (1 : Int32)) := AV.at S185 rfl
        obtain ⟨cl186, A186, S186, Nl186, M186⟩ := id Vr182
        have hin186 : ¬ ((1 : Int32) < 0 ∨ cl186.slots.size ≤ ((1 : Int32)).toNatClampNeg) := AV.inb S186 Nl186 ⟨by decide, by decide⟩
        have hat186 : cl186.slots[((1 : Int32)).toNatClampNeg]? = some (.int (2 : Int32)) := AV.at S186 rfl
        have hc187 : (0 : Int32) < (lcmpW (p3.toInt64) (0 : Int64)) := by exact own_gt.mpr (Int64.lt_iff_toInt_lt.mpr (hg.2.1 rfl))
        have hc188 : (0 : Int32) < (lcmpW (p4.toInt64) (0 : Int64)) := by exact own_gt.mpr (Int64.lt_iff_toInt_lt.mpr (hg.2.2.1 rfl))
        have pre189 : ∀ t, Steps p.tables e below (T132.setTop (mkF m 339 (Lq0 p1 p2 p3 p4 ucap us0 us1 us2 (kI 3) (kR b116) (kR b117) (kR r1_132) (kI 2) (kI 6) (kI 2) (kI 2)) [])) t → Steps p.tables e below (s₁.setTop (entryFrame m #[(.int p1), (.int p2), (.int p3), (.int p4)] maxLocals)) t := fun t k => pre137 t (by
          show Steps _ _ _ (T132.setTop (mkF m 141 (Lq0 p1 p2 p3 p4 ucap us0 us1 us2 (kI 3) (kR b116) (kR b117) kU kU kU kU kU) [(.ref r1_132)])) _
          refine XS.astore X132.here hx rfl (hb hby at_141) rfl rfl (l' := (Lq0 p1 p2 p3 p4 ucap us0 us1 us2 (kI 3) (kR b116) (kR b117) (kR r1_132) kU kU kU kU)) rfl ?_
          show Steps _ _ _ (T132.setTop (mkF m 143 (Lq0 p1 p2 p3 p4 ucap us0 us1 us2 (kI 3) (kR b116) (kR b117) (kR r1_132) kU kU kU kU) [])) _
          refine XS.aload X132.here hx rfl (hb hby at_143) rfl rfl ?_
          refine XS.ifnullNo X132.here hx rfl (hb hby at_145) rfl ?_
          refine XS.aload X132.here hx rfl (hb hby at_148) rfl rfl ?_
          refine X132.arraylength hx (by exact A183.1) (State.isArrayOf_alike hZ.alike A183.2.1) (g := (mkF m 150 (Lq0 p1 p2 p3 p4 ucap us0 us1 us2 (kI 3) (kR b116) (kR b117) (kR r1_132) kU kU kU kU) [(.ref r1_132)])) rfl rfl (hb hby at_150) _ ?_
          rw [AV.len S183 Nl183 M183]
          show Steps _ _ _ (T132.setTop (mkF m 151 (Lq0 p1 p2 p3 p4 ucap us0 us1 us2 (kI 3) (kR b116) (kR b117) (kR r1_132) kU kU kU kU) [(.int (2 : Int32))])) _
          refine XS.iload X132.here hx rfl (hb hby at_151) rfl ?_
          refine XS.icmpYes X132.here hx rfl (pc0 := 153) (pc' := 158) rfl (hb hby at_153) rfl (flt (by decide : ¬ ((3 : Int32) < (2 : Int32)))).2.2.2 (by decide) (by decide) ?_
          refine XS.aload X132.here hx rfl (hb hby at_158) rfl rfl ?_
          refine X132.arraylength hx (by exact A184.1) (State.isArrayOf_alike hZ.alike A184.2.1) (g := (mkF m 160 (Lq0 p1 p2 p3 p4 ucap us0 us1 us2 (kI 3) (kR b116) (kR b117) (kR r1_132) kU kU kU kU) [(.ref r1_132)])) rfl rfl (hb hby at_160) _ ?_
          rw [AV.len S184 Nl184 M184]
          show Steps _ _ _ (T132.setTop (mkF m 161 (Lq0 p1 p2 p3 p4 ucap us0 us1 us2 (kI 3) (kR b116) (kR b117) (kR r1_132) kU kU kU kU) [(.int (2 : Int32))])) _
          refine XS.istore X132.here hx rfl (hb hby at_161) rfl (l' := (Lq0 p1 p2 p3 p4 ucap us0 us1 us2 (kI 3) (kR b116) (kR b117) (kR r1_132) (kI 2) kU kU kU)) rfl ?_
          refine XS.iconst X132.here hx rfl (hb hby at_163) ?_
          refine XS.istore X132.here hx rfl (hb hby at_164) rfl (l' := (Lq0 p1 p2 p3 p4 ucap us0 us1 us2 (kI 3) (kR b116) (kR b117) (kR r1_132) (kI 2) (kI 0) kU kU)) rfl ?_
          show Steps _ _ _ (T132.setTop (mkF m 166 (Lq0 p1 p2 p3 p4 ucap us0 us1 us2 (kI 3) (kR b116) (kR b117) (kR r1_132) (kI 2) (kI 0) kU kU) [])) _
          refine XS.iconst X132.here hx rfl (hb hby at_166) ?_
          refine XS.istore X132.here hx rfl (hb hby at_167) rfl (l' := (Lq0 p1 p2 p3 p4 ucap us0 us1 us2 (kI 3) (kR b116) (kR b117) (kR r1_132) (kI 2) (kI 0) (kI (-1)) kU)) rfl ?_
          refine XS.iload X132.here hx rfl (hb hby at_169) rfl ?_
          show Steps _ _ _ (T132.setTop (mkF m 171 (Lq0 p1 p2 p3 p4 ucap us0 us1 us2 (kI 3) (kR b116) (kR b117) (kR r1_132) (kI 2) (kI 0) (kI (-1)) kU) [(.int (2 : Int32))])) _
          refine XS.ifNo X132.here hx rfl (hb hby at_171) rfl ((if0 _ _).trans (tlt (by decide : (0 : Int32) < (2 : Int32))).2.2.2) ?_
          refine XS.aload X132.here hx rfl (hb hby at_174) rfl rfl ?_
          refine XS.iconst X132.here hx rfl (hb hby at_176) ?_
          refine X132.iaload hx (j := (0 : Int32)) (v := (.int (1 : Int32))) (by exact A185.1) (State.isArrayOf_alike hZ.alike A185.2.1) A185.2.2 hin185 hat185 (g := (mkF m 177 (Lq0 p1 p2 p3 p4 ucap us0 us1 us2 (kI 3) (kR b116) (kR b117) (kR r1_132) (kI 2) (kI 0) (kI (-1)) kU) [(.int (0 : Int32)), (.ref r1_132)])) rfl rfl (hb hby at_177) _ ?_
          show Steps _ _ _ (T132.setTop (mkF m 178 (Lq0 p1 p2 p3 p4 ucap us0 us1 us2 (kI 3) (kR b116) (kR b117) (kR r1_132) (kI 2) (kI 0) (kI (-1)) kU) [(.int (1 : Int32))])) _
          refine XS.istore X132.here hx rfl (hb hby at_178) rfl (l' := (Lq0 p1 p2 p3 p4 ucap us0 us1 us2 (kI 3) (kR b116) (kR b117) (kR r1_132) (kI 2) (kI 0) (kI (-1)) (kI 1))) rfl ?_
          refine XS.iload X132.here hx rfl (hb hby at_180) rfl ?_
          refine XS.iload X132.here hx rfl (hb hby at_182) rfl ?_
          show Steps _ _ _ (T132.setTop (mkF m 184 (Lq0 p1 p2 p3 p4 ucap us0 us1 us2 (kI 3) (kR b116) (kR b117) (kR r1_132) (kI 2) (kI 0) (kI (-1)) (kI 1)) [(.int (-1 : Int32)), (.int (1 : Int32))])) _
          refine XS.icmpNo X132.here hx rfl (hb hby at_184) rfl (tlt (by decide : (-1 : Int32) < (1 : Int32))).2.2.2 ?_
          refine XS.iload X132.here hx rfl (hb hby at_187) rfl ?_
          refine XS.iload X132.here hx rfl (hb hby at_189) rfl ?_
          show Steps _ _ _ (T132.setTop (mkF m 191 (Lq0 p1 p2 p3 p4 ucap us0 us1 us2 (kI 3) (kR b116) (kR b117) (kR r1_132) (kI 2) (kI 0) (kI (-1)) (kI 1)) [(.int (3 : Int32)), (.int (1 : Int32))])) _
          refine XS.icmpYes X132.here hx rfl (pc0 := 191) (pc' := 196) rfl (hb hby at_191) rfl (tlt (by decide : (1 : Int32) < (3 : Int32))).1 (by decide) (by decide) ?_
          refine XS.iload X132.here hx rfl (hb hby at_196) rfl ?_
          refine XS.iconst X132.here hx rfl (hb hby at_198) ?_
          show Steps _ _ _ (T132.setTop (mkF m 199 (Lq0 p1 p2 p3 p4 ucap us0 us1 us2 (kI 3) (kR b116) (kR b117) (kR r1_132) (kI 2) (kI 0) (kI (-1)) (kI 1)) [(.int (1 : Int32)), (.int (0 : Int32))])) _
          refine XS.iload X132.here hx rfl (hb hby at_199) rfl ?_
          refine XS.ishl X132.here hx rfl (hb hby at_201) rfl ?_
          refine XS.ior X132.here hx rfl (hb hby at_202) rfl ?_
          show Steps _ _ _ (T132.setTop (mkF m 203 (Lq0 p1 p2 p3 p4 ucap us0 us1 us2 (kI 3) (kR b116) (kR b117) (kR r1_132) (kI 2) (kI 0) (kI (-1)) (kI 1)) [(.int (2 : Int32))])) _
          refine XS.istore X132.here hx rfl (hb hby at_203) rfl (l' := (Lq0 p1 p2 p3 p4 ucap us0 us1 us2 (kI 3) (kR b116) (kR b117) (kR r1_132) (kI 2) (kI 2) (kI (-1)) (kI 1))) rfl ?_
          refine XS.iload X132.here hx rfl (hb hby at_205) rfl ?_
          refine XS.istore X132.here hx rfl (hb hby at_207) rfl (l' := (Lq0 p1 p2 p3 p4 ucap us0 us1 us2 (kI 3) (kR b116) (kR b117) (kR r1_132) (kI 2) (kI 2) (kI 1) (kI 1))) rfl ?_
          show Steps _ _ _ (T132.setTop (mkF m 209 (Lq0 p1 p2 p3 p4 ucap us0 us1 us2 (kI 3) (kR b116) (kR b117) (kR r1_132) (kI 2) (kI 2) (kI 1) (kI 1)) [])) _
          refine XS.iload X132.here hx rfl (hb hby at_209) rfl ?_
          refine XS.iconst X132.here hx rfl (hb hby at_211) ?_
          refine XS.icmpNo X132.here hx rfl (hb hby at_212) rfl (tlt (by decide : (1 : Int32) < (2 : Int32))).2.2.2 ?_
          show Steps _ _ _ (T132.setTop (mkF m 215 (Lq0 p1 p2 p3 p4 ucap us0 us1 us2 (kI 3) (kR b116) (kR b117) (kR r1_132) (kI 2) (kI 2) (kI 1) (kI 1)) [])) _
          refine XS.aload X132.here hx rfl (hb hby at_215) rfl rfl ?_
          refine XS.iconst X132.here hx rfl (hb hby at_217) ?_
          refine X132.iaload hx (j := (1 : Int32)) (v := (.int (2 : Int32))) (by exact A186.1) (State.isArrayOf_alike hZ.alike A186.2.1) A186.2.2 hin186 hat186 (g := (mkF m 218 (Lq0 p1 p2 p3 p4 ucap us0 us1 us2 (kI 3) (kR b116) (kR b117) (kR r1_132) (kI 2) (kI 2) (kI 1) (kI 1)) [(.int (1 : Int32)), (.ref r1_132)])) rfl rfl (hb hby at_218) _ ?_
          refine XS.istore X132.here hx rfl (hb hby at_219) rfl (l' := (Lq0 p1 p2 p3 p4 ucap us0 us1 us2 (kI 3) (kR b116) (kR b117) (kR r1_132) (kI 2) (kI 2) (kI 1) (kI 2))) rfl ?_
          show Steps _ _ _ (T132.setTop (mkF m 221 (Lq0 p1 p2 p3 p4 ucap us0 us1 us2 (kI 3) (kR b116) (kR b117) (kR r1_132) (kI 2) (kI 2) (kI 1) (kI 2)) [])) _
          refine XS.iload X132.here hx rfl (hb hby at_221) rfl ?_
          refine XS.iload X132.here hx rfl (hb hby at_223) rfl ?_
          refine XS.icmpNo X132.here hx rfl (hb hby at_225) rfl (tlt (by decide : (1 : Int32) < (2 : Int32))).2.2.2 ?_
          show Steps _ _ _ (T132.setTop (mkF m 228 (Lq0 p1 p2 p3 p4 ucap us0 us1 us2 (kI 3) (kR b116) (kR b117) (kR r1_132) (kI 2) (kI 2) (kI 1) (kI 2)) [])) _
          refine XS.iload X132.here hx rfl (hb hby at_228) rfl ?_
          refine XS.iload X132.here hx rfl (hb hby at_230) rfl ?_
          refine XS.icmpYes X132.here hx rfl (pc0 := 232) (pc' := 237) rfl (hb hby at_232) rfl (tlt (by decide : (2 : Int32) < (3 : Int32))).1 (by decide) (by decide) ?_
          show Steps _ _ _ (T132.setTop (mkF m 237 (Lq0 p1 p2 p3 p4 ucap us0 us1 us2 (kI 3) (kR b116) (kR b117) (kR r1_132) (kI 2) (kI 2) (kI 1) (kI 2)) [])) _
          refine XS.iload X132.here hx rfl (hb hby at_237) rfl ?_
          refine XS.iconst X132.here hx rfl (hb hby at_239) ?_
          refine XS.iload X132.here hx rfl (hb hby at_240) rfl ?_
          show Steps _ _ _ (T132.setTop (mkF m 242 (Lq0 p1 p2 p3 p4 ucap us0 us1 us2 (kI 3) (kR b116) (kR b117) (kR r1_132) (kI 2) (kI 2) (kI 1) (kI 2)) [(.int (2 : Int32)), (.int (1 : Int32)), (.int (2 : Int32))])) _
          refine XS.ishl X132.here hx rfl (hb hby at_242) rfl ?_
          refine XS.ior X132.here hx rfl (hb hby at_243) rfl ?_
          refine XS.istore X132.here hx rfl (hb hby at_244) rfl (l' := (Lq0 p1 p2 p3 p4 ucap us0 us1 us2 (kI 3) (kR b116) (kR b117) (kR r1_132) (kI 2) (kI 6) (kI 1) (kI 2))) rfl ?_
          show Steps _ _ _ (T132.setTop (mkF m 246 (Lq0 p1 p2 p3 p4 ucap us0 us1 us2 (kI 3) (kR b116) (kR b117) (kR r1_132) (kI 2) (kI 6) (kI 1) (kI 2)) [])) _
          refine XS.iload X132.here hx rfl (hb hby at_246) rfl ?_
          refine XS.istore X132.here hx rfl (hb hby at_248) rfl (l' := (Lq0 p1 p2 p3 p4 ucap us0 us1 us2 (kI 3) (kR b116) (kR b117) (kR r1_132) (kI 2) (kI 6) (kI 2) (kI 2))) rfl ?_
          refine XS.iload X132.here hx rfl (hb hby at_250) rfl ?_
          show Steps _ _ _ (T132.setTop (mkF m 252 (Lq0 p1 p2 p3 p4 ucap us0 us1 us2 (kI 3) (kR b116) (kR b117) (kR r1_132) (kI 2) (kI 6) (kI 2) (kI 2)) [(.int (2 : Int32))])) _
          refine XS.iconst X132.here hx rfl (hb hby at_252) ?_
          refine XS.icmpYes X132.here hx rfl (pc0 := 253) (pc' := 291) rfl (hb hby at_253) rfl (flt (by decide : ¬ ((2 : Int32) < (2 : Int32)))).2.2.2 (by decide) (by decide) ?_
          refine XS.iload X132.here hx rfl (hb hby at_291) rfl ?_
          show Steps _ _ _ (T132.setTop (mkF m 293 (Lq0 p1 p2 p3 p4 ucap us0 us1 us2 (kI 3) (kR b116) (kR b117) (kR r1_132) (kI 2) (kI 6) (kI 2) (kI 2)) [(.int (6 : Int32))])) _
          refine XS.iconst X132.here hx rfl (hb hby at_293) ?_
          refine XS.iand X132.here hx rfl (hb hby at_294) rfl ?_
          refine XS.ifYes X132.here hx rfl (pc0 := 295) (pc' := 307) rfl (hb hby at_295) rfl ((if0 _ _).trans (teq (rfl : (0 : Int32) = (0 : Int32))).1) (by decide) (by decide) ?_
          show Steps _ _ _ (T132.setTop (mkF m 307 (Lq0 p1 p2 p3 p4 ucap us0 us1 us2 (kI 3) (kR b116) (kR b117) (kR r1_132) (kI 2) (kI 6) (kI 2) (kI 2)) [])) _
          refine XS.iload X132.here hx rfl (hb hby at_307) rfl ?_
          refine XS.iconst X132.here hx rfl (hb hby at_309) ?_
          refine XS.iand X132.here hx rfl (hb hby at_310) rfl ?_
          show Steps _ _ _ (T132.setTop (mkF m 311 (Lq0 p1 p2 p3 p4 ucap us0 us1 us2 (kI 3) (kR b116) (kR b117) (kR r1_132) (kI 2) (kI 6) (kI 2) (kI 2)) [(.int (2 : Int32))])) _
          refine XS.ifNo X132.here hx rfl (hb hby at_311) rfl ((if0 _ _).trans (feq (by decide : ¬ ((2 : Int32) = (0 : Int32)))).1) ?_
          refine XS.lload X132.here hx rfl (hb hby at_314) rfl ?_
          refine XS.lconst X132.here hx rfl (hb hby at_316) ?_
          show Steps _ _ _ (T132.setTop (mkF m 317 (Lq0 p1 p2 p3 p4 ucap us0 us1 us2 (kI 3) (kR b116) (kR b117) (kR r1_132) (kI 2) (kI 6) (kI 2) (kI 2)) [(.long (0 : Int64)), (.long (p3.toInt64))])) _
          refine XS.lcmp X132.here hx rfl (hb hby at_317) rfl ?_
          refine XS.ifYes X132.here hx rfl (pc0 := 318) (pc' := 323) rfl (hb hby at_318) rfl ((if0 _ _).trans (tlt hc187).2.2.1) (by decide) (by decide) ?_
          refine XS.iload X132.here hx rfl (hb hby at_323) rfl ?_
          show Steps _ _ _ (T132.setTop (mkF m 325 (Lq0 p1 p2 p3 p4 ucap us0 us1 us2 (kI 3) (kR b116) (kR b117) (kR r1_132) (kI 2) (kI 6) (kI 2) (kI 2)) [(.int (6 : Int32))])) _
          refine XS.iconst X132.here hx rfl (hb hby at_325) ?_
          refine XS.iand X132.here hx rfl (hb hby at_326) rfl ?_
          refine XS.ifNo X132.here hx rfl (hb hby at_327) rfl ((if0 _ _).trans (feq (by decide : ¬ ((4 : Int32) = (0 : Int32)))).1) ?_
          show Steps _ _ _ (T132.setTop (mkF m 330 (Lq0 p1 p2 p3 p4 ucap us0 us1 us2 (kI 3) (kR b116) (kR b117) (kR r1_132) (kI 2) (kI 6) (kI 2) (kI 2)) [])) _
          refine XS.lload X132.here hx rfl (hb hby at_330) rfl ?_
          refine XS.lconst X132.here hx rfl (hb hby at_332) ?_
          refine XS.lcmp X132.here hx rfl (hb hby at_333) rfl ?_
          show Steps _ _ _ (T132.setTop (mkF m 334 (Lq0 p1 p2 p3 p4 ucap us0 us1 us2 (kI 3) (kR b116) (kR b117) (kR r1_132) (kI 2) (kI 6) (kI 2) (kI 2)) [(.int (lcmpW (p4.toInt64) (0 : Int64)))])) _
          refine XS.ifYes X132.here hx rfl (pc0 := 334) (pc' := 339) rfl (hb hby at_334) rfl ((if0 _ _).trans (tlt hc188).2.2.1) (by decide) (by decide) ?_
          exact k)
        have he190 := own_end_3_6 hcapL hsL0 hsL1 hsL2 (own_vrL p2) (own_vrL p3) (own_vrL p4) hg
        exact jn2 (T132, _, _, (3 : Int32), b116, b117, r1_132, (2 : Int32), (6 : Int32), (2 : Int32), .val (.int (2 : Int32))) ⟨he190.1, he190.2, (Or.inr (Or.inl ⟨_, rfl⟩)), (X132.more (by decide) (by decide)), rfl, N132, K136, fun t k => pre189 t k⟩
      · have Vr191 : AV Z T132.heap r1_132 .int (3 : Int32) [(.int (0 : Int32)), (.int (1 : Int32)), (.int (2 : Int32))] := by have q := P132_0; rw [hz, hvs] at q; exact q
        obtain ⟨cl192, A192, S192, Nl192, M192⟩ := id Vr191
        obtain ⟨cl193, A193, S193, Nl193, M193⟩ := id Vr191
        obtain ⟨cl194, A194, S194, Nl194, M194⟩ := id Vr191
        have hin194 : ¬ ((0 : Int32) < 0 ∨ cl194.slots.size ≤ ((0 : Int32)).toNatClampNeg) := AV.inb S194 Nl194 ⟨by decide, by decide⟩
        have hat194 : cl194.slots[((0 : Int32)).toNatClampNeg]? = some (.int (0 : Int32)) := AV.at S194 rfl
        obtain ⟨cl195, A195, S195, Nl195, M195⟩ := id Vr191
        have hin195 : ¬ ((1 : Int32) < 0 ∨ cl195.slots.size ≤ ((1 : Int32)).toNatClampNeg) := AV.inb S195 Nl195 ⟨by decide, by decide⟩
        have hat195 : cl195.slots[((1 : Int32)).toNatClampNeg]? = some (.int (1 : Int32)) := AV.at S195 rfl
        obtain ⟨cl196, A196, S196, Nl196, M196⟩ := id Vr191
        have hin196 : ¬ ((2 : Int32) < 0 ∨ cl196.slots.size ≤ ((2 : Int32)).toNatClampNeg) := AV.inb S196 Nl196 ⟨by decide, by decide⟩
        have hat196 : cl196.slots[((2 : Int32)).toNatClampNeg]? = some (.int (2 : Int32)) := AV.at S196 rfl
        have hc197 : (0 : Int32) < (lcmpW (p2.toInt64) (0 : Int64)) := by exact own_gt.mpr (Int64.lt_iff_toInt_lt.mpr (hg.1 rfl))
        have hc198 : (0 : Int32) < (lcmpW (p3.toInt64) (0 : Int64)) := by exact own_gt.mpr (Int64.lt_iff_toInt_lt.mpr (hg.2.1 rfl))
        have hc199 : (0 : Int32) < (lcmpW (p4.toInt64) (0 : Int64)) := by exact own_gt.mpr (Int64.lt_iff_toInt_lt.mpr (hg.2.2.1 rfl))
        have pre200 : ∀ t, Steps p.tables e below (T132.setTop (mkF m 339 (Lq0 p1 p2 p3 p4 ucap us0 us1 us2 (kI 3) (kR b116) (kR b117) (kR r1_132) (kI 3) (kI 7) (kI 2) (kI 2)) [])) t → Steps p.tables e below (s₁.setTop (entryFrame m #[(.int p1), (.int p2), (.int p3), (.int p4)] maxLocals)) t := fun t k => pre137 t (by
          show Steps _ _ _ (T132.setTop (mkF m 141 (Lq0 p1 p2 p3 p4 ucap us0 us1 us2 (kI 3) (kR b116) (kR b117) kU kU kU kU kU) [(.ref r1_132)])) _
          refine XS.astore X132.here hx rfl (hb hby at_141) rfl rfl (l' := (Lq0 p1 p2 p3 p4 ucap us0 us1 us2 (kI 3) (kR b116) (kR b117) (kR r1_132) kU kU kU kU)) rfl ?_
          refine XS.aload X132.here hx rfl (hb hby at_143) rfl rfl ?_
          show Steps _ _ _ (T132.setTop (mkF m 145 (Lq0 p1 p2 p3 p4 ucap us0 us1 us2 (kI 3) (kR b116) (kR b117) (kR r1_132) kU kU kU kU) [(.ref r1_132)])) _
          refine XS.ifnullNo X132.here hx rfl (hb hby at_145) rfl ?_
          refine XS.aload X132.here hx rfl (hb hby at_148) rfl rfl ?_
          refine X132.arraylength hx (by exact A192.1) (State.isArrayOf_alike hZ.alike A192.2.1) (g := (mkF m 150 (Lq0 p1 p2 p3 p4 ucap us0 us1 us2 (kI 3) (kR b116) (kR b117) (kR r1_132) kU kU kU kU) [(.ref r1_132)])) rfl rfl (hb hby at_150) _ ?_
          rw [AV.len S192 Nl192 M192]
          refine XS.iload X132.here hx rfl (hb hby at_151) rfl ?_
          show Steps _ _ _ (T132.setTop (mkF m 153 (Lq0 p1 p2 p3 p4 ucap us0 us1 us2 (kI 3) (kR b116) (kR b117) (kR r1_132) kU kU kU kU) [(.int (3 : Int32)), (.int (3 : Int32))])) _
          refine XS.icmpYes X132.here hx rfl (pc0 := 153) (pc' := 158) rfl (hb hby at_153) rfl (flt (by decide : ¬ ((3 : Int32) < (3 : Int32)))).2.2.2 (by decide) (by decide) ?_
          refine XS.aload X132.here hx rfl (hb hby at_158) rfl rfl ?_
          refine X132.arraylength hx (by exact A193.1) (State.isArrayOf_alike hZ.alike A193.2.1) (g := (mkF m 160 (Lq0 p1 p2 p3 p4 ucap us0 us1 us2 (kI 3) (kR b116) (kR b117) (kR r1_132) kU kU kU kU) [(.ref r1_132)])) rfl rfl (hb hby at_160) _ ?_
          rw [AV.len S193 Nl193 M193]
          refine XS.istore X132.here hx rfl (hb hby at_161) rfl (l' := (Lq0 p1 p2 p3 p4 ucap us0 us1 us2 (kI 3) (kR b116) (kR b117) (kR r1_132) (kI 3) kU kU kU)) rfl ?_
          show Steps _ _ _ (T132.setTop (mkF m 163 (Lq0 p1 p2 p3 p4 ucap us0 us1 us2 (kI 3) (kR b116) (kR b117) (kR r1_132) (kI 3) kU kU kU) [])) _
          refine XS.iconst X132.here hx rfl (hb hby at_163) ?_
          refine XS.istore X132.here hx rfl (hb hby at_164) rfl (l' := (Lq0 p1 p2 p3 p4 ucap us0 us1 us2 (kI 3) (kR b116) (kR b117) (kR r1_132) (kI 3) (kI 0) kU kU)) rfl ?_
          refine XS.iconst X132.here hx rfl (hb hby at_166) ?_
          show Steps _ _ _ (T132.setTop (mkF m 167 (Lq0 p1 p2 p3 p4 ucap us0 us1 us2 (kI 3) (kR b116) (kR b117) (kR r1_132) (kI 3) (kI 0) kU kU) [(.int (-1 : Int32))])) _
          refine XS.istore X132.here hx rfl (hb hby at_167) rfl (l' := (Lq0 p1 p2 p3 p4 ucap us0 us1 us2 (kI 3) (kR b116) (kR b117) (kR r1_132) (kI 3) (kI 0) (kI (-1)) kU)) rfl ?_
          refine XS.iload X132.here hx rfl (hb hby at_169) rfl ?_
          refine XS.ifNo X132.here hx rfl (hb hby at_171) rfl ((if0 _ _).trans (tlt (by decide : (0 : Int32) < (3 : Int32))).2.2.2) ?_
          show Steps _ _ _ (T132.setTop (mkF m 174 (Lq0 p1 p2 p3 p4 ucap us0 us1 us2 (kI 3) (kR b116) (kR b117) (kR r1_132) (kI 3) (kI 0) (kI (-1)) kU) [])) _
          refine XS.aload X132.here hx rfl (hb hby at_174) rfl rfl ?_
          refine XS.iconst X132.here hx rfl (hb hby at_176) ?_
          refine X132.iaload hx (j := (0 : Int32)) (v := (.int (0 : Int32))) (by exact A194.1) (State.isArrayOf_alike hZ.alike A194.2.1) A194.2.2 hin194 hat194 (g := (mkF m 177 (Lq0 p1 p2 p3 p4 ucap us0 us1 us2 (kI 3) (kR b116) (kR b117) (kR r1_132) (kI 3) (kI 0) (kI (-1)) kU) [(.int (0 : Int32)), (.ref r1_132)])) rfl rfl (hb hby at_177) _ ?_
          refine XS.istore X132.here hx rfl (hb hby at_178) rfl (l' := (Lq0 p1 p2 p3 p4 ucap us0 us1 us2 (kI 3) (kR b116) (kR b117) (kR r1_132) (kI 3) (kI 0) (kI (-1)) (kI 0))) rfl ?_
          show Steps _ _ _ (T132.setTop (mkF m 180 (Lq0 p1 p2 p3 p4 ucap us0 us1 us2 (kI 3) (kR b116) (kR b117) (kR r1_132) (kI 3) (kI 0) (kI (-1)) (kI 0)) [])) _
          refine XS.iload X132.here hx rfl (hb hby at_180) rfl ?_
          refine XS.iload X132.here hx rfl (hb hby at_182) rfl ?_
          refine XS.icmpNo X132.here hx rfl (hb hby at_184) rfl (tlt (by decide : (-1 : Int32) < (0 : Int32))).2.2.2 ?_
          show Steps _ _ _ (T132.setTop (mkF m 187 (Lq0 p1 p2 p3 p4 ucap us0 us1 us2 (kI 3) (kR b116) (kR b117) (kR r1_132) (kI 3) (kI 0) (kI (-1)) (kI 0)) [])) _
          refine XS.iload X132.here hx rfl (hb hby at_187) rfl ?_
          refine XS.iload X132.here hx rfl (hb hby at_189) rfl ?_
          refine XS.icmpYes X132.here hx rfl (pc0 := 191) (pc' := 196) rfl (hb hby at_191) rfl (tlt (by decide : (0 : Int32) < (3 : Int32))).1 (by decide) (by decide) ?_
          show Steps _ _ _ (T132.setTop (mkF m 196 (Lq0 p1 p2 p3 p4 ucap us0 us1 us2 (kI 3) (kR b116) (kR b117) (kR r1_132) (kI 3) (kI 0) (kI (-1)) (kI 0)) [])) _
          refine XS.iload X132.here hx rfl (hb hby at_196) rfl ?_
          refine XS.iconst X132.here hx rfl (hb hby at_198) ?_
          refine XS.iload X132.here hx rfl (hb hby at_199) rfl ?_
          show Steps _ _ _ (T132.setTop (mkF m 201 (Lq0 p1 p2 p3 p4 ucap us0 us1 us2 (kI 3) (kR b116) (kR b117) (kR r1_132) (kI 3) (kI 0) (kI (-1)) (kI 0)) [(.int (0 : Int32)), (.int (1 : Int32)), (.int (0 : Int32))])) _
          refine XS.ishl X132.here hx rfl (hb hby at_201) rfl ?_
          refine XS.ior X132.here hx rfl (hb hby at_202) rfl ?_
          refine XS.istore X132.here hx rfl (hb hby at_203) rfl (l' := (Lq0 p1 p2 p3 p4 ucap us0 us1 us2 (kI 3) (kR b116) (kR b117) (kR r1_132) (kI 3) (kI 1) (kI (-1)) (kI 0))) rfl ?_
          show Steps _ _ _ (T132.setTop (mkF m 205 (Lq0 p1 p2 p3 p4 ucap us0 us1 us2 (kI 3) (kR b116) (kR b117) (kR r1_132) (kI 3) (kI 1) (kI (-1)) (kI 0)) [])) _
          refine XS.iload X132.here hx rfl (hb hby at_205) rfl ?_
          refine XS.istore X132.here hx rfl (hb hby at_207) rfl (l' := (Lq0 p1 p2 p3 p4 ucap us0 us1 us2 (kI 3) (kR b116) (kR b117) (kR r1_132) (kI 3) (kI 1) (kI 0) (kI 0))) rfl ?_
          refine XS.iload X132.here hx rfl (hb hby at_209) rfl ?_
          show Steps _ _ _ (T132.setTop (mkF m 211 (Lq0 p1 p2 p3 p4 ucap us0 us1 us2 (kI 3) (kR b116) (kR b117) (kR r1_132) (kI 3) (kI 1) (kI 0) (kI 0)) [(.int (3 : Int32))])) _
          refine XS.iconst X132.here hx rfl (hb hby at_211) ?_
          refine XS.icmpNo X132.here hx rfl (hb hby at_212) rfl (tlt (by decide : (1 : Int32) < (3 : Int32))).2.2.2 ?_
          refine XS.aload X132.here hx rfl (hb hby at_215) rfl rfl ?_
          show Steps _ _ _ (T132.setTop (mkF m 217 (Lq0 p1 p2 p3 p4 ucap us0 us1 us2 (kI 3) (kR b116) (kR b117) (kR r1_132) (kI 3) (kI 1) (kI 0) (kI 0)) [(.ref r1_132)])) _
          refine XS.iconst X132.here hx rfl (hb hby at_217) ?_
          refine X132.iaload hx (j := (1 : Int32)) (v := (.int (1 : Int32))) (by exact A195.1) (State.isArrayOf_alike hZ.alike A195.2.1) A195.2.2 hin195 hat195 (g := (mkF m 218 (Lq0 p1 p2 p3 p4 ucap us0 us1 us2 (kI 3) (kR b116) (kR b117) (kR r1_132) (kI 3) (kI 1) (kI 0) (kI 0)) [(.int (1 : Int32)), (.ref r1_132)])) rfl rfl (hb hby at_218) _ ?_
          refine XS.istore X132.here hx rfl (hb hby at_219) rfl (l' := (Lq0 p1 p2 p3 p4 ucap us0 us1 us2 (kI 3) (kR b116) (kR b117) (kR r1_132) (kI 3) (kI 1) (kI 0) (kI 1))) rfl ?_
          refine XS.iload X132.here hx rfl (hb hby at_221) rfl ?_
          show Steps _ _ _ (T132.setTop (mkF m 223 (Lq0 p1 p2 p3 p4 ucap us0 us1 us2 (kI 3) (kR b116) (kR b117) (kR r1_132) (kI 3) (kI 1) (kI 0) (kI 1)) [(.int (1 : Int32))])) _
          refine XS.iload X132.here hx rfl (hb hby at_223) rfl ?_
          refine XS.icmpNo X132.here hx rfl (hb hby at_225) rfl (tlt (by decide : (0 : Int32) < (1 : Int32))).2.2.2 ?_
          refine XS.iload X132.here hx rfl (hb hby at_228) rfl ?_
          show Steps _ _ _ (T132.setTop (mkF m 230 (Lq0 p1 p2 p3 p4 ucap us0 us1 us2 (kI 3) (kR b116) (kR b117) (kR r1_132) (kI 3) (kI 1) (kI 0) (kI 1)) [(.int (1 : Int32))])) _
          refine XS.iload X132.here hx rfl (hb hby at_230) rfl ?_
          refine XS.icmpYes X132.here hx rfl (pc0 := 232) (pc' := 237) rfl (hb hby at_232) rfl (tlt (by decide : (1 : Int32) < (3 : Int32))).1 (by decide) (by decide) ?_
          refine XS.iload X132.here hx rfl (hb hby at_237) rfl ?_
          show Steps _ _ _ (T132.setTop (mkF m 239 (Lq0 p1 p2 p3 p4 ucap us0 us1 us2 (kI 3) (kR b116) (kR b117) (kR r1_132) (kI 3) (kI 1) (kI 0) (kI 1)) [(.int (1 : Int32))])) _
          refine XS.iconst X132.here hx rfl (hb hby at_239) ?_
          refine XS.iload X132.here hx rfl (hb hby at_240) rfl ?_
          refine XS.ishl X132.here hx rfl (hb hby at_242) rfl ?_
          show Steps _ _ _ (T132.setTop (mkF m 243 (Lq0 p1 p2 p3 p4 ucap us0 us1 us2 (kI 3) (kR b116) (kR b117) (kR r1_132) (kI 3) (kI 1) (kI 0) (kI 1)) [(.int (2 : Int32)), (.int (1 : Int32))])) _
          refine XS.ior X132.here hx rfl (hb hby at_243) rfl ?_
          refine XS.istore X132.here hx rfl (hb hby at_244) rfl (l' := (Lq0 p1 p2 p3 p4 ucap us0 us1 us2 (kI 3) (kR b116) (kR b117) (kR r1_132) (kI 3) (kI 3) (kI 0) (kI 1))) rfl ?_
          refine XS.iload X132.here hx rfl (hb hby at_246) rfl ?_
          show Steps _ _ _ (T132.setTop (mkF m 248 (Lq0 p1 p2 p3 p4 ucap us0 us1 us2 (kI 3) (kR b116) (kR b117) (kR r1_132) (kI 3) (kI 3) (kI 0) (kI 1)) [(.int (1 : Int32))])) _
          refine XS.istore X132.here hx rfl (hb hby at_248) rfl (l' := (Lq0 p1 p2 p3 p4 ucap us0 us1 us2 (kI 3) (kR b116) (kR b117) (kR r1_132) (kI 3) (kI 3) (kI 1) (kI 1))) rfl ?_
          refine XS.iload X132.here hx rfl (hb hby at_250) rfl ?_
          refine XS.iconst X132.here hx rfl (hb hby at_252) ?_
          show Steps _ _ _ (T132.setTop (mkF m 253 (Lq0 p1 p2 p3 p4 ucap us0 us1 us2 (kI 3) (kR b116) (kR b117) (kR r1_132) (kI 3) (kI 3) (kI 1) (kI 1)) [(.int (2 : Int32)), (.int (3 : Int32))])) _
          refine XS.icmpNo X132.here hx rfl (hb hby at_253) rfl (tlt (by decide : (2 : Int32) < (3 : Int32))).2.2.2 ?_
          refine XS.aload X132.here hx rfl (hb hby at_256) rfl rfl ?_
          refine XS.iconst X132.here hx rfl (hb hby at_258) ?_
          refine X132.iaload hx (j := (2 : Int32)) (v := (.int (2 : Int32))) (by exact A196.1) (State.isArrayOf_alike hZ.alike A196.2.1) A196.2.2 hin196 hat196 (g := (mkF m 259 (Lq0 p1 p2 p3 p4 ucap us0 us1 us2 (kI 3) (kR b116) (kR b117) (kR r1_132) (kI 3) (kI 3) (kI 1) (kI 1)) [(.int (2 : Int32)), (.ref r1_132)])) rfl rfl (hb hby at_259) _ ?_
          show Steps _ _ _ (T132.setTop (mkF m 260 (Lq0 p1 p2 p3 p4 ucap us0 us1 us2 (kI 3) (kR b116) (kR b117) (kR r1_132) (kI 3) (kI 3) (kI 1) (kI 1)) [(.int (2 : Int32))])) _
          refine XS.istore X132.here hx rfl (hb hby at_260) rfl (l' := (Lq0 p1 p2 p3 p4 ucap us0 us1 us2 (kI 3) (kR b116) (kR b117) (kR r1_132) (kI 3) (kI 3) (kI 1) (kI 2))) rfl ?_
          refine XS.iload X132.here hx rfl (hb hby at_262) rfl ?_
          refine XS.iload X132.here hx rfl (hb hby at_264) rfl ?_
          show Steps _ _ _ (T132.setTop (mkF m 266 (Lq0 p1 p2 p3 p4 ucap us0 us1 us2 (kI 3) (kR b116) (kR b117) (kR r1_132) (kI 3) (kI 3) (kI 1) (kI 2)) [(.int (1 : Int32)), (.int (2 : Int32))])) _
          refine XS.icmpNo X132.here hx rfl (hb hby at_266) rfl (tlt (by decide : (1 : Int32) < (2 : Int32))).2.2.2 ?_
          refine XS.iload X132.here hx rfl (hb hby at_269) rfl ?_
          refine XS.iload X132.here hx rfl (hb hby at_271) rfl ?_
          show Steps _ _ _ (T132.setTop (mkF m 273 (Lq0 p1 p2 p3 p4 ucap us0 us1 us2 (kI 3) (kR b116) (kR b117) (kR r1_132) (kI 3) (kI 3) (kI 1) (kI 2)) [(.int (3 : Int32)), (.int (2 : Int32))])) _
          refine XS.icmpYes X132.here hx rfl (pc0 := 273) (pc' := 278) rfl (hb hby at_273) rfl (tlt (by decide : (2 : Int32) < (3 : Int32))).1 (by decide) (by decide) ?_
          refine XS.iload X132.here hx rfl (hb hby at_278) rfl ?_
          refine XS.iconst X132.here hx rfl (hb hby at_280) ?_
          show Steps _ _ _ (T132.setTop (mkF m 281 (Lq0 p1 p2 p3 p4 ucap us0 us1 us2 (kI 3) (kR b116) (kR b117) (kR r1_132) (kI 3) (kI 3) (kI 1) (kI 2)) [(.int (1 : Int32)), (.int (3 : Int32))])) _
          refine XS.iload X132.here hx rfl (hb hby at_281) rfl ?_
          refine XS.ishl X132.here hx rfl (hb hby at_283) rfl ?_
          refine XS.ior X132.here hx rfl (hb hby at_284) rfl ?_
          show Steps _ _ _ (T132.setTop (mkF m 285 (Lq0 p1 p2 p3 p4 ucap us0 us1 us2 (kI 3) (kR b116) (kR b117) (kR r1_132) (kI 3) (kI 3) (kI 1) (kI 2)) [(.int (7 : Int32))])) _
          refine XS.istore X132.here hx rfl (hb hby at_285) rfl (l' := (Lq0 p1 p2 p3 p4 ucap us0 us1 us2 (kI 3) (kR b116) (kR b117) (kR r1_132) (kI 3) (kI 7) (kI 1) (kI 2))) rfl ?_
          refine XS.iload X132.here hx rfl (hb hby at_287) rfl ?_
          refine XS.istore X132.here hx rfl (hb hby at_289) rfl (l' := (Lq0 p1 p2 p3 p4 ucap us0 us1 us2 (kI 3) (kR b116) (kR b117) (kR r1_132) (kI 3) (kI 7) (kI 2) (kI 2))) rfl ?_
          show Steps _ _ _ (T132.setTop (mkF m 291 (Lq0 p1 p2 p3 p4 ucap us0 us1 us2 (kI 3) (kR b116) (kR b117) (kR r1_132) (kI 3) (kI 7) (kI 2) (kI 2)) [])) _
          refine XS.iload X132.here hx rfl (hb hby at_291) rfl ?_
          refine XS.iconst X132.here hx rfl (hb hby at_293) ?_
          refine XS.iand X132.here hx rfl (hb hby at_294) rfl ?_
          show Steps _ _ _ (T132.setTop (mkF m 295 (Lq0 p1 p2 p3 p4 ucap us0 us1 us2 (kI 3) (kR b116) (kR b117) (kR r1_132) (kI 3) (kI 7) (kI 2) (kI 2)) [(.int (1 : Int32))])) _
          refine XS.ifNo X132.here hx rfl (hb hby at_295) rfl ((if0 _ _).trans (feq (by decide : ¬ ((1 : Int32) = (0 : Int32)))).1) ?_
          refine XS.lload X132.here hx rfl (hb hby at_298) rfl ?_
          refine XS.lconst X132.here hx rfl (hb hby at_300) ?_
          show Steps _ _ _ (T132.setTop (mkF m 301 (Lq0 p1 p2 p3 p4 ucap us0 us1 us2 (kI 3) (kR b116) (kR b117) (kR r1_132) (kI 3) (kI 7) (kI 2) (kI 2)) [(.long (0 : Int64)), (.long (p2.toInt64))])) _
          refine XS.lcmp X132.here hx rfl (hb hby at_301) rfl ?_
          refine XS.ifYes X132.here hx rfl (pc0 := 302) (pc' := 307) rfl (hb hby at_302) rfl ((if0 _ _).trans (tlt hc197).2.2.1) (by decide) (by decide) ?_
          refine XS.iload X132.here hx rfl (hb hby at_307) rfl ?_
          show Steps _ _ _ (T132.setTop (mkF m 309 (Lq0 p1 p2 p3 p4 ucap us0 us1 us2 (kI 3) (kR b116) (kR b117) (kR r1_132) (kI 3) (kI 7) (kI 2) (kI 2)) [(.int (7 : Int32))])) _
          refine XS.iconst X132.here hx rfl (hb hby at_309) ?_
          refine XS.iand X132.here hx rfl (hb hby at_310) rfl ?_
          refine XS.ifNo X132.here hx rfl (hb hby at_311) rfl ((if0 _ _).trans (feq (by decide : ¬ ((2 : Int32) = (0 : Int32)))).1) ?_
          show Steps _ _ _ (T132.setTop (mkF m 314 (Lq0 p1 p2 p3 p4 ucap us0 us1 us2 (kI 3) (kR b116) (kR b117) (kR r1_132) (kI 3) (kI 7) (kI 2) (kI 2)) [])) _
          refine XS.lload X132.here hx rfl (hb hby at_314) rfl ?_
          refine XS.lconst X132.here hx rfl (hb hby at_316) ?_
          refine XS.lcmp X132.here hx rfl (hb hby at_317) rfl ?_
          show Steps _ _ _ (T132.setTop (mkF m 318 (Lq0 p1 p2 p3 p4 ucap us0 us1 us2 (kI 3) (kR b116) (kR b117) (kR r1_132) (kI 3) (kI 7) (kI 2) (kI 2)) [(.int (lcmpW (p3.toInt64) (0 : Int64)))])) _
          refine XS.ifYes X132.here hx rfl (pc0 := 318) (pc' := 323) rfl (hb hby at_318) rfl ((if0 _ _).trans (tlt hc198).2.2.1) (by decide) (by decide) ?_
          refine XS.iload X132.here hx rfl (hb hby at_323) rfl ?_
          refine XS.iconst X132.here hx rfl (hb hby at_325) ?_
          show Steps _ _ _ (T132.setTop (mkF m 326 (Lq0 p1 p2 p3 p4 ucap us0 us1 us2 (kI 3) (kR b116) (kR b117) (kR r1_132) (kI 3) (kI 7) (kI 2) (kI 2)) [(.int (4 : Int32)), (.int (7 : Int32))])) _
          refine XS.iand X132.here hx rfl (hb hby at_326) rfl ?_
          refine XS.ifNo X132.here hx rfl (hb hby at_327) rfl ((if0 _ _).trans (feq (by decide : ¬ ((4 : Int32) = (0 : Int32)))).1) ?_
          refine XS.lload X132.here hx rfl (hb hby at_330) rfl ?_
          show Steps _ _ _ (T132.setTop (mkF m 332 (Lq0 p1 p2 p3 p4 ucap us0 us1 us2 (kI 3) (kR b116) (kR b117) (kR r1_132) (kI 3) (kI 7) (kI 2) (kI 2)) [(.long (p4.toInt64))])) _
          refine XS.lconst X132.here hx rfl (hb hby at_332) ?_
          refine XS.lcmp X132.here hx rfl (hb hby at_333) rfl ?_
          refine XS.ifYes X132.here hx rfl (pc0 := 334) (pc' := 339) rfl (hb hby at_334) rfl ((if0 _ _).trans (tlt hc199).2.2.1) (by decide) (by decide) ?_
          exact k)
        have he201 := own_end_3_7 hcapL hsL0 hsL1 hsL2 (own_vrL p2) (own_vrL p3) (own_vrL p4) hg
        exact jn2 (T132, _, _, (3 : Int32), b116, b117, r1_132, (3 : Int32), (7 : Int32), (2 : Int32), .val (.int (2 : Int32))) ⟨he201.1, he201.2, (Or.inr (Or.inl ⟨_, rfl⟩)), (X132.more (by decide) (by decide)), rfl, N132, K136, fun t k => pre200 t k⟩
set_option maxRecDepth 65536 in
set_option maxHeartbeats 40000000 in
theorem comes_1 {Post : Tables → Env → Array Value → State → Outcome → State → Prop} (hpost : ∀ tb e args s v u, (limb_1_1.after args s (.returned v) u = true ∧ limb_1_2.after args s (.returned v) u = true ∧ True) → FrameEnd s (.returned v) u (Jvm.fieldLocs frame_1_writes args s ++ Jvm.arrayLocs frame_1_arrays args s ++ Jvm.staticLocs frame_1_statics s) 32 256 → Post tb e args s (.returned v) u) :
    ArmFor flags0 classFile x code maxLocals ret World_1 tables_1 room_1 Calls_1 rest_1 Pre_1 Post := by
  intro l hfl _ _ p e ha hc hk s m args below hf hA hF happ hP
  obtain ⟨hcalls, hrest, hpre⟩ := hP
  obtain ⟨-, -, -, hnamed, -, -, -, hat⟩ := (Spec.applies_iff hf).mp happ
  obtain ⟨hg, hn⟩ := and_e (Cond.before_iff.mp (show (Jvm.Cond.and given_1 narrow_1).before args s = true from hpre))
  obtain ⟨g1, g2⟩ := and_e hg
  obtain ⟨g3, g4⟩ := and_e g2
  obtain ⟨g5, g6⟩ := and_e g4
  obtain ⟨g7, g8⟩ := and_e g6
  obtain ⟨w0, w1, w2, w3, rfl⟩ : ∃ w0 w1 w2 w3 : Value, args = #[w0, w1, w2, w3] := by
    have hs : args.size = 4 := by simpa [Cond.value, given_1] using g1
    obtain ⟨L⟩ := args
    match L, hs with
    | [w0, w1, w2, w3], _ => exact ⟨w0, w1, w2, w3, rfl⟩
  have hw := fun d (hd : d ∈ tables_1) => atoms_spec (ws := Jvm.Cond.code x code maxLocals ret :: tables_1) hat d (List.mem_cons_of_mem _ hd)
  have hfit : Fit s := fun {y c} hc i hi => by
    obtain ⟨ha, rfl⟩ := Array.getElem?_eq_some_iff.mp hc
    have q := List.all_eq_true.mp ((Array.all_eq_true_iff_forall_mem.mp hF) _ (Array.getElem_mem ha)) i (List.mem_range.mpr hi)
    simpa [Array.getElem?_eq_getElem hi] using q
  obtain ⟨i0, ei0⟩ := is_v g3
  obtain rfl : w0 = (.int i0) := Option.some.inj ei0
  obtain ⟨i1, ei1⟩ := is_v g5
  obtain rfl : w1 = (.int i1) := Option.some.inj ei1
  obtain ⟨i2, ei2⟩ := is_v g7
  obtain rfl : w2 = (.int i2) := Option.some.inj ei2
  obtain ⟨i3, ei3⟩ := is_v g8
  obtain rfl : w3 = (.int i3) := Option.some.inj ei3
  obtain ⟨n, o, h1, h2, h3, _, L, rfl, ⟨rfl, N⟩, hq⟩ := rm0 l s _ hw tables_1 i0 i1 i2 i3 s.heap s.heap.size (Nat.le_refl _) p e ha hc hk s m _ below hf ((Spec.applies_iff_loose hf).mp happ).1 ⟨rfl, State.Warmed39.refl s, rfl⟩ trivial
  refine ⟨n, _, h1, h2, h3, hpost _ _ _ _ _ _ ⟨Cond.after_iff.mpr rfl, Cond.after_iff.mpr (eq_i res_at (Term.int_eval (1)) rfl), trivial⟩ ⟨hq.1, hq.2.1, (hq.2.2.sift fun y hy => Or.inr (N y hy)).mono (by decide) (by decide)⟩⟩
theorem main_1_1 : Claimed_1_1 := comes_1 fun _ _ _ _ _ _ h hF => ⟨h.1, hF⟩
theorem main_1_2 : Claimed_1_2 := comes_1 fun _ _ _ _ _ _ h hF => ⟨h.2.1, hF⟩
end Jvm.Pilot.@@N@@
namespace Jvm.Pilot.@@N@@
open Jvm Jvm.ClassFile Sem Op Lib Jvm.Free Jvm.Stand Jvm.Pilot.@@N@@.Jvm.D
/-! MADE BY PROGRAM (witnessworld.py) out of the Statement's table words and the real class files: 14 classes; the members and pool entries that the words name. The judged class is class 1, her method 1. -/
namespace start1
open Jvm.ClassFile
def u (s : String) : CpInfo := .utf8 (stringToUtf16 s)
/-- a pool by its gaps: so many unusable entries, then the entry; so many at the end -/
def gap : Nat → List CpInfo → List CpInfo
  | 0, r => r
  | n + 1, r => .unusable :: gap n r
def poolList (es : List (Nat × CpInfo)) (last : Nat) : List CpInfo := es.foldr (fun e r => gap e.1 (e.2 :: r)) (gap last [])
def pool (es : List (Nat × CpInfo)) (last : Nat) : Array CpInfo := ⟨poolList es last⟩
def fileOf (pool : Array CpInfo) (this : Nat) (attrs : Array Attribute := #[]) (ms : Array MethodInfo := #[]) (fl : Nat := 33) (sup : Nat := 0) (ifs : Array Nat := #[]) (fds : Array FieldInfo := #[]) : ClassFile where
  minorVersion := 0
  majorVersion := 65
  constantPool := pool
  accessFlags := fl
  thisClass := this
  superClass := sup
  interfaces := ifs
  fields := fds
  methods := ms
  attributes := attrs
def plain (name : String) (sup : Option ClassId) : Class where
  name := name
  kind := .ordinary
  loader := none
  accessFlags := 33
  super := sup
  interfaces := #[]
  cf := none
  fields := #[]
  methods := #[]
  instanceTypes := #[]
  staticTypes := #[]
  resolved := #[]
  callSites := []
  init := .initialized
  statics := none
  mirror := none

def pool0 : Array CpInfo := pool [(5, u "<init>"), (0, u "()V"), (1, .class_ 10), (1, u "java/lang/Object")] 113

def k0m0 : Method := { name := "<init>", desc := "()V", sig := { parameters := [], returnType := none }, accessFlags := 1, code := none }
/-- java/lang/Object -/
def k0 : Class := { plain "java/lang/Object" none with
  accessFlags := 33
  interfaces := #[]
  cf := some (fileOf pool0 8 #[] #[{ accessFlags := 1, nameIndex := 5, descriptorIndex := 6, attributes := #[] }] 33 0 #[] #[])
  fields := #[]
  methods := #[k0m0]
  instanceTypes := #[]
  staticTypes := #[]
  resolved := Array.replicate 124 none
  statics := none }

def pool1 : Array CpInfo := pool [(2, .class_ 4), (1, u "java/lang/Object"), (0, u "<init>"), (0, u "()V"), (0, .methodref 8 9), (0, .class_ 10), (0, .nameAndType 11 12), (0, u "com/example/hindsight/hindsight/solvers/Knapsack"), (0, u "heaviest"), (0, u "([I[JI)[I"), (0, .methodref 14 15), (0, .class_ 16), (0, .nameAndType 17 18), (0, u "com/example/hindsight/hindsight/solvers/KnapsackHeaviestPinLaw"), (0, u "size"), (0, u "(IIII)I"), (0, .methodref 14 20), (0, .nameAndType 21 22), (0, u "value"), (0, u "(IIIIIIJJJ)J"), (0, .methodref 24 25), (0, .class_ 26), (0, .nameAndType 27 28), (0, u "java/lang/Math"), (0, u "max"), (0, u "(JJ)J"), (0, .methodref 14 30), (0, .nameAndType 31 32), (0, u "weight"), (0, u "(IJJJ)J"), (2, u "law"), (0, u "(IIII)Z")] 7

def k1m0 : Method := { name := "<init>", desc := "()V", sig := { parameters := [], returnType := none }, accessFlags := 2, code := none }
def k1c1 : Code := { maxStack := 14, maxLocals := 23, code := code, exceptionTable := #[], attributes := #[] }
def k1m1 : Method := { name := "law", desc := "(IIII)Z", sig := { parameters := [.int, .int, .int, .int], returnType := some .boolean }, accessFlags := 9, code := some k1c1 }
def k1c2 : Code := { maxStack := 2, maxLocals := 5, code := method_3_code, exceptionTable := #[], attributes := #[] }
def k1m2 : Method := { name := "size", desc := "(IIII)I", sig := { parameters := [.int, .int, .int, .int], returnType := some .int }, accessFlags := 10, code := some k1c2 }
def k1c3 : Code := { maxStack := 4, maxLocals := 9, code := method_4_code, exceptionTable := #[], attributes := #[] }
def k1m3 : Method := { name := "weight", desc := "(IJJJ)J", sig := { parameters := [.int, .long, .long, .long], returnType := some .long }, accessFlags := 10, code := some k1c3 }
def k1c4 : Code := { maxStack := 7, maxLocals := 12, code := method_5_code, exceptionTable := #[], attributes := #[] }
def k1m4 : Method := { name := "value", desc := "(IIIIIIJJJ)J", sig := { parameters := [.int, .int, .int, .int, .int, .int, .long, .long, .long], returnType := some .long }, accessFlags := 10, code := some k1c4 }
/-- com/example/hindsight/hindsight/solvers/KnapsackHeaviestPinLaw -/
def k1 : Class := { plain "com/example/hindsight/hindsight/solvers/KnapsackHeaviestPinLaw" (some 0) with
  accessFlags := 49
  interfaces := #[]
  cf := some (fileOf pool1 14 #[] #[{ accessFlags := 2, nameIndex := 5, descriptorIndex := 6, attributes := #[] }, { accessFlags := 9, nameIndex := 35, descriptorIndex := 36, attributes := #[] }, { accessFlags := 10, nameIndex := 17, descriptorIndex := 18, attributes := #[] }, { accessFlags := 10, nameIndex := 31, descriptorIndex := 32, attributes := #[] }, { accessFlags := 10, nameIndex := 21, descriptorIndex := 22, attributes := #[] }] 49 2 #[] #[])
  fields := #[]
  methods := #[k1m0, k1m1, k1m2, k1m3, k1m4]
  instanceTypes := #[]
  staticTypes := #[]
  resolved := Array.replicate 44 none
  statics := none }

def pool2 : Array CpInfo := pool [(2, .class_ 4), (1, u "java/lang/Object"), (0, u "<init>"), (0, u "()V"), (0, .class_ 8), (0, u "[Z"), (0, .class_ 10), (0, u "com/example/hindsight/hindsight/solvers/Knapsack"), (2, u "heaviest"), (0, u "([I[JI)[I")] 9

def k2m0 : Method := { name := "<init>", desc := "()V", sig := { parameters := [], returnType := none }, accessFlags := 2, code := none }
def k2c1 : Code := { maxStack := 4, maxLocals := 12, code := prog_60_method_2_code, exceptionTable := #[], attributes := #[] }
def k2m1 : Method := { name := "heaviest", desc := "([I[JI)[I", sig := { parameters := [(.array .int), (.array .long), .int], returnType := some (.array .int) }, accessFlags := 8, code := some k2c1 }
/-- com/example/hindsight/hindsight/solvers/Knapsack -/
def k2 : Class := { plain "com/example/hindsight/hindsight/solvers/Knapsack" (some 0) with
  accessFlags := 48
  interfaces := #[]
  cf := some (fileOf pool2 9 #[] #[{ accessFlags := 2, nameIndex := 5, descriptorIndex := 6, attributes := #[] }, { accessFlags := 8, nameIndex := 13, descriptorIndex := 14, attributes := #[] }] 48 2 #[] #[])
  fields := #[]
  methods := #[k2m0, k2m1]
  instanceTypes := #[]
  staticTypes := #[]
  resolved := Array.replicate 24 none
  statics := none }

def pool3 : Array CpInfo := pool [(1, .class_ 2), (0, u "java/lang/Math"), (1, .class_ 6), (1, u "java/lang/Object"), (0, u "<init>"), (0, u "()V"), (89, .class_ 100), (1, u "java/lang/Math$RandomNumberGeneratorHolder"), (20, u "(JJ)J"), (50, u "negativeZeroFloatBits"), (0, u "J"), (2, u "negativeZeroDoubleBits"), (21, u "max"), (46, u "$assertionsDisabled"), (0, u "Z"), (91, u "twoToTheDoubleScaleDown"), (0, u "D"), (4, u "twoToTheDoubleScaleUp"), (9, u "E"), (3, u "PI"), (2, u "TAU"), (2, u "DEGREES_TO_RADIANS"), (0, u "RADIANS_TO_DEGREES")] 94

def k3m0 : Method := { name := "<init>", desc := "()V", sig := { parameters := [], returnType := none }, accessFlags := 2, code := none }
def k3c1 : Code := { maxStack := 4, maxLocals := 4, code := jdk_29_method_66_code, exceptionTable := #[], attributes := #[] }
def k3m1 : Method := { name := "max", desc := "(JJ)J", sig := { parameters := [.long, .long], returnType := some .long }, accessFlags := 9, code := some k3c1 }
/-- java/lang/Math -/
def k3 : Class := { plain "java/lang/Math" (some 0) with
  accessFlags := 49
  interfaces := #[]
  cf := some (fileOf pool3 1 #[.nestMembers #[98]] #[{ accessFlags := 2, nameIndex := 7, descriptorIndex := 8, attributes := #[] }, { accessFlags := 9, nameIndex := 198, descriptorIndex := 121, attributes := #[] }] 49 4 #[] #[{ accessFlags := 25, nameIndex := 354, descriptorIndex := 339, attributes := #[] }, { accessFlags := 25, nameIndex := 358, descriptorIndex := 339, attributes := #[] }, { accessFlags := 25, nameIndex := 361, descriptorIndex := 339, attributes := #[] }, { accessFlags := 26, nameIndex := 364, descriptorIndex := 339, attributes := #[] }, { accessFlags := 26, nameIndex := 365, descriptorIndex := 339, attributes := #[] }, { accessFlags := 26, nameIndex := 172, descriptorIndex := 173, attributes := #[] }, { accessFlags := 26, nameIndex := 176, descriptorIndex := 173, attributes := #[] }, { accessFlags := 8, nameIndex := 344, descriptorIndex := 339, attributes := #[] }, { accessFlags := 8, nameIndex := 338, descriptorIndex := 339, attributes := #[] }, { accessFlags := 4120, nameIndex := 245, descriptorIndex := 246, attributes := #[] }])
  fields := #[{ name := "E", type := .double, accessFlags := 25, slot := 0, constantValue := 0 }, { name := "PI", type := .double, accessFlags := 25, slot := 1, constantValue := 0 }, { name := "TAU", type := .double, accessFlags := 25, slot := 2, constantValue := 0 }, { name := "DEGREES_TO_RADIANS", type := .double, accessFlags := 26, slot := 3, constantValue := 0 }, { name := "RADIANS_TO_DEGREES", type := .double, accessFlags := 26, slot := 4, constantValue := 0 }, { name := "negativeZeroFloatBits", type := .long, accessFlags := 26, slot := 5, constantValue := 0 }, { name := "negativeZeroDoubleBits", type := .long, accessFlags := 26, slot := 6, constantValue := 0 }, { name := "twoToTheDoubleScaleUp", type := .double, accessFlags := 8, slot := 7, constantValue := 0 }, { name := "twoToTheDoubleScaleDown", type := .double, accessFlags := 8, slot := 8, constantValue := 0 }, { name := "$assertionsDisabled", type := .boolean, accessFlags := 4120, slot := 9, constantValue := 0 }]
  methods := #[k3m0, k3m1]
  instanceTypes := #[]
  staticTypes := #[.double, .double, .double, .double, .double, .long, .long, .double, .double, .boolean]
  resolved := Array.replicate 460 none
  statics := none }

def pool4 : Array CpInfo := pool [(1, u "java/lang/Cloneable"), (0, .class_ 1), (0, u "java/lang/Object"), (0, .class_ 3)] 3

/-- java/lang/Cloneable -/
def k4 : Class := { plain "java/lang/Cloneable" (some 0) with
  accessFlags := 1537
  interfaces := #[]
  cf := some (fileOf pool4 2 #[] #[] 1537 4 #[] #[])
  fields := #[]
  methods := #[]
  instanceTypes := #[]
  staticTypes := #[]
  resolved := Array.replicate 8 none
  statics := none }

def pool5 : Array CpInfo := pool [(1, u "java/io/Serializable"), (0, .class_ 1), (0, u "java/lang/Object"), (0, .class_ 3)] 3

/-- java/io/Serializable -/
def k5 : Class := { plain "java/io/Serializable" (some 0) with
  accessFlags := 1537
  interfaces := #[]
  cf := some (fileOf pool5 2 #[] #[] 1537 4 #[] #[])
  fields := #[]
  methods := #[]
  instanceTypes := #[]
  staticTypes := #[]
  resolved := Array.replicate 8 none
  statics := none }

/-- the primitive boolean -/
def k6 : Class := { plain "boolean" none with kind := .primitive 'Z', accessFlags := 0x411 }
/-- [Z -/
def k7 : Class := { plain "[Z" (some 0) with kind := .array 6 .boolean, interfaces := #[4, 5], accessFlags := 1041 }

/-- the primitive byte -/
def k8 : Class := { plain "byte" none with kind := .primitive 'B', accessFlags := 0x411 }
/-- [B -/
def k9 : Class := { plain "[B" (some 0) with kind := .array 8 .byte, interfaces := #[4, 5], accessFlags := 1041 }

/-- the primitive int -/
def k10 : Class := { plain "int" none with kind := .primitive 'I', accessFlags := 0x411 }
/-- [I -/
def k11 : Class := { plain "[I" (some 0) with kind := .array 10 .int, interfaces := #[4, 5], accessFlags := 1041 }

/-- the primitive long -/
def k12 : Class := { plain "long" none with kind := .primitive 'J', accessFlags := 0x411 }
/-- [J -/
def k13 : Class := { plain "[J" (some 0) with kind := .array 12 .long, interfaces := #[4, 5], accessFlags := 1041 }

/-- [[Z -/
def k14 : Class := { plain "[[Z" (some 0) with kind := .array 7 (.array .boolean), interfaces := #[4, 5], accessFlags := 1041 }
def heap : Heap := #[]
def classes : Array Class := #[k0, k1, k2, k3, k4, k5, k6, k7, k8, k9, k10, k11, k12, k13, k14]
def interned : List (Array UInt16 × Addr) := []
def slotsUsed : Nat := 0
def theMethod : MethodId := ⟨1, 1⟩
def args0 : Array Value := #[.int 5, .int 6, .int 7, .int 8]
def aboutOver (below : List Frame) : State where
  vm := { classes := classes, interned := interned.toArray }
  heap := heap
  slotsUsed := slotsUsed
  threads := #[{ frames := .invoking theMethod args0 :: below }]
def below0 : List Frame := [.native { method := ⟨0, 0⟩, args := #[] }]
def about1 : State := aboutOver below0
def p0 : Program := .bare "" "" ""
def e0 : Env := launch0.env 0 0 0
theorem w_frames : about1.frames = Frame.invoking theMethod args0 :: below0 := rfl
set_option maxRecDepth 65536 in
theorem w_args : argsFit about1.vm theMethod args0 = true := by decide +kernel
set_option maxRecDepth 65536 in
theorem w_heap : heapFits about1 = true := by decide +kernel
set_option maxRecDepth 65536 in
theorem w_runnable : about1.curStatus? = some .runnable := by decide +kernel
set_option maxRecDepth 65536 in
theorem w_alone : about1.alone = true := by decide +kernel
set_option maxRecDepth 65536 in
theorem w_named : about1.methodNamed? x = some theMethod := by decide +kernel
set_option maxRecDepth 65536 in
theorem w_hears : about1.hears theMethod below0 = true := by decide +kernel
set_option maxRecDepth 65536 in
theorem w_ripe : about1.ripe theMethod args0 below0 = true := by decide +kernel
theorem w_running : about1.status = .running := rfl
set_option maxRecDepth 65536 in
theorem w_room : about1.hasRoom e0.platform room_1 = true :=
  launch0.hasRoom_least _ room_1 (by decide +kernel) (by decide +kernel) (by decide +kernel) (by decide +kernel) (by decide +kernel) (by decide +kernel)
theorem allAtoms_all (ts : List Jvm.Cond) (a : Array Jvm.Value) (st : Jvm.State) : (allAtoms ts).before a st = ts.all (fun c => c.before a st) := by
  induction ts with
  | nil => rfl
  | cons c t ih =>
    show (Jvm.Cond.and c (allAtoms t)).before a st = _
    rw [Jvm.Cond.before_and, ih, List.all_cons]
def words1 : List Jvm.Cond := Jvm.Cond.code x code maxLocals ret :: tables_1
/-- a 'code' word, met by the world's own term for the bytes: nothing is compared byte by byte -/
theorem code_word {y : MethodName} {bytes : ByteArray} {mx : Nat} {rt : Option FieldType} {a : Array Value} {s : State} {m : MethodId} {meth : Method} {c : Code} (h1 : s.methodNamed? y = some m) (h2 : s.vm.method? m = some meth) (h3 : meth.code = some c) (h4 : c.code = bytes)
    (h5 : (c.maxLocals == mx && c.exceptionTable.isEmpty && decide (c.maxStack ≤ mostOperands) && decide (meth.sig.returnType = rt) && !meth.locks && decide (parseMethodDescriptor y.desc = some meth.sig)) = true) : (Jvm.Cond.code y bytes mx rt).before a s = true := by
  simp only [Bool.and_eq_true, beq_iff_eq, Bool.not_eq_true', decide_eq_true_eq] at h5
  obtain ⟨⟨⟨⟨⟨g1, g2⟩, g3⟩, g4⟩, g5⟩, g6⟩ := h5
  simp [Cond.before, Cond.holds, Cond.value, h1, h2, h3, h4, g1, g2, g3, g4, g5, g6]
def isCode : Jvm.Cond → Bool
  | .code _ _ _ _ => true
  | _ => false
theorem all_split {L : List Jvm.Cond} {P : Jvm.Cond → Bool} (h1 : L.all (fun c => isCode c || P c) = true) (h2 : ∀ c ∈ L.filter isCode, P c = true) : L.all P = true := by
  refine List.all_eq_true.mpr fun c hc => ?_
  have h := List.all_eq_true.mp h1 c hc
  rcases Bool.eq_false_or_eq_true (isCode c) with hi | hi
  · exact h2 c (List.mem_filter.mpr ⟨hc, hi⟩)
  · simpa [hi] using h
set_option maxRecDepth 65536 in
theorem w_c0 : (Jvm.Cond.code x code maxLocals ret).before args0 about1 = true := code_word (m := ⟨1, 1⟩) (meth := k1m1) (c := k1c1) (by decide +kernel) rfl rfl rfl (by decide +kernel)
set_option maxRecDepth 65536 in
theorem w_c1 : (Jvm.Cond.code ({ cls := "com/example/hindsight/hindsight/solvers/Knapsack", name := "heaviest", desc := "([I[JI)[I" } : Jvm.MethodName) prog_60_method_2_code (12 : Nat) (Option.some (Jvm.ClassFile.FieldType.array Jvm.ClassFile.FieldType.int))).before args0 about1 = true := code_word (m := ⟨2, 1⟩) (meth := k2m1) (c := k2c1) (by decide +kernel) rfl rfl rfl (by decide +kernel)
set_option maxRecDepth 65536 in
theorem w_c2 : (Jvm.Cond.code ({ cls := "com/example/hindsight/hindsight/solvers/KnapsackHeaviestPinLaw", name := "size", desc := "(IIII)I" } : Jvm.MethodName) method_3_code (5 : Nat) (Option.some Jvm.ClassFile.FieldType.int)).before args0 about1 = true := code_word (m := ⟨1, 2⟩) (meth := k1m2) (c := k1c2) (by decide +kernel) rfl rfl rfl (by decide +kernel)
set_option maxRecDepth 65536 in
theorem w_c3 : (Jvm.Cond.code ({ cls := "com/example/hindsight/hindsight/solvers/KnapsackHeaviestPinLaw", name := "value", desc := "(IIIIIIJJJ)J" } : Jvm.MethodName) method_5_code (12 : Nat) (Option.some Jvm.ClassFile.FieldType.long)).before args0 about1 = true := code_word (m := ⟨1, 4⟩) (meth := k1m4) (c := k1c4) (by decide +kernel) rfl rfl rfl (by decide +kernel)
set_option maxRecDepth 65536 in
theorem w_c4 : (Jvm.Cond.code ({ cls := "com/example/hindsight/hindsight/solvers/KnapsackHeaviestPinLaw", name := "weight", desc := "(IJJJ)J" } : Jvm.MethodName) method_4_code (9 : Nat) (Option.some Jvm.ClassFile.FieldType.long)).before args0 about1 = true := code_word (m := ⟨1, 3⟩) (meth := k1m3) (c := k1c3) (by decide +kernel) rfl rfl rfl (by decide +kernel)
set_option maxRecDepth 65536 in
theorem w_c5 : (Jvm.Cond.code ({ cls := "java/lang/Math", name := "max", desc := "(JJ)J" } : Jvm.MethodName) jdk_29_method_66_code (4 : Nat) (Option.some Jvm.ClassFile.FieldType.long)).before args0 about1 = true := code_word (m := ⟨3, 1⟩) (meth := k3m1) (c := k3c1) (by decide +kernel) rfl rfl rfl (by decide +kernel)
def codes1 : List Jvm.Cond := [Jvm.Cond.code x code maxLocals ret, Jvm.Cond.code ({ cls := "com/example/hindsight/hindsight/solvers/Knapsack", name := "heaviest", desc := "([I[JI)[I" } : Jvm.MethodName) prog_60_method_2_code (12 : Nat) (Option.some (Jvm.ClassFile.FieldType.array Jvm.ClassFile.FieldType.int)), Jvm.Cond.code ({ cls := "com/example/hindsight/hindsight/solvers/KnapsackHeaviestPinLaw", name := "size", desc := "(IIII)I" } : Jvm.MethodName) method_3_code (5 : Nat) (Option.some Jvm.ClassFile.FieldType.int), Jvm.Cond.code ({ cls := "com/example/hindsight/hindsight/solvers/KnapsackHeaviestPinLaw", name := "value", desc := "(IIIIIIJJJ)J" } : Jvm.MethodName) method_5_code (12 : Nat) (Option.some Jvm.ClassFile.FieldType.long), Jvm.Cond.code ({ cls := "com/example/hindsight/hindsight/solvers/KnapsackHeaviestPinLaw", name := "weight", desc := "(IJJJ)J" } : Jvm.MethodName) method_4_code (9 : Nat) (Option.some Jvm.ClassFile.FieldType.long), Jvm.Cond.code ({ cls := "java/lang/Math", name := "max", desc := "(JJ)J" } : Jvm.MethodName) jdk_29_method_66_code (4 : Nat) (Option.some Jvm.ClassFile.FieldType.long)]
set_option maxRecDepth 65536 in
theorem codes_eq : words1.filter isCode = codes1 := rfl
theorem w_codes : ∀ c ∈ words1.filter isCode, c.before args0 about1 = true := by
  rw [codes_eq]
  intro c hc
  simp only [codes1, List.mem_cons, List.not_mem_nil, or_false] at hc
  rcases hc with rfl | rfl | rfl | rfl | rfl | rfl
  · exact w_c0
  · exact w_c1
  · exact w_c2
  · exact w_c3
  · exact w_c4
  · exact w_c5
set_option maxRecDepth 65536 in
theorem w_t1 : (words1.take 24).all (fun c => isCode c || c.before args0 about1) = true := by decide +kernel
set_option maxRecDepth 65536 in
theorem w_t2 : (words1.drop 24).all (fun c => isCode c || c.before args0 about1) = true := by decide +kernel
theorem w_tables : (allAtoms (Jvm.Cond.code x code maxLocals ret :: tables_1)).before args0 about1 = true := by
  rw [allAtoms_all]
  show words1.all (fun c => c.before args0 about1) = true
  refine all_split ?_ w_codes
  rw [← List.take_append_drop 24 words1, List.all_append, w_t1, w_t2]
  rfl
set_option maxRecDepth 65536 in
theorem w_case : (Jvm.Cond.and given_1 narrow_1).before args0 about1 = true := by decide +kernel
theorem w_applies : (headSpec (Jvm.Cond.code x code maxLocals ret :: tables_1) room_1).applies x e0.platform about1 = true :=
  (Spec.applies_iff w_frames).mpr ⟨w_running, w_runnable, w_alone, w_named, w_hears, w_ripe, w_room, w_tables⟩
theorem atStart : AtStart classFile x code maxLocals ret World_1 tables_1 room_1 Calls_1 rest_1 Pre_1 launch0 p0 e0 about1 theMethod args0 below0 :=
  ⟨lists_1, trivial, launch0.admits_env _ _ _, launch0.least_env, fairChoices_fair.cas, fairChoices_fair.clock, w_frames, w_args, w_heap, w_applies, trivial, trivial, w_case⟩
end start1
theorem witness_1 : WitnessClaimed_1 := ⟨start1.p0, start1.e0, start1.about1, start1.theMethod, start1.args0, start1.below0, start1.atStart⟩
end Jvm.Pilot.@@N@@

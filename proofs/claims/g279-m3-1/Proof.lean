import JvmDerived
import JvmDerived.Pilot.@@N@@Statement
import JvmDerived.Pilot.@@N@@Code
set_option linter.unusedVariables false
set_option linter.unusedSimpArgs false
@@BLOCK:NumsL.lean.txt@@
namespace Jvm.RoadKit
open Sem ClassFile Op Lib Jvm.Stand Jvm.Free Jvm.LawKit
section New
variable {p : Program} {l : Launch} {e : Env} {R : Room} {s : State} {m : MethodId} {args : Array Value} {below : List Frame} {meth : Method} {c : Code} {T : State} {locs : List Loc} {cells slots : Nat}
theorem retI (X : Stand p l e R s m args below meth c T locs cells slots) (hx : p.tables.exec = Jvm.exec) {pc : Nat} {Ls : Array Slot} {z : Int32} {rest : List Value} (hret : meth.sig.returnType = some .int) (hd : decode c.code pc = .ok (.ireturn, 1)) {fs : List Frame}
    (hl : ∀ (f : JFrame) (acts : List Action), f.method = m → f.locked = none → f.entered = [] → (doReturn e (T.setTop f) acts (some (.int z))).1 = T.setFrames fs) : Steps p.tables e below (T.setTop (mkF m pc Ls (.int z :: rest))) (T.setFrames fs) := by
  have hm' : T.vm.method? m = some meth := X.method'
  have hn : narrow .int (.int z) = .int z := rfl
  show Steps p.tables e below (T.setTop { method := m, pc := pc, locals := Ls, stack := _ :: rest, locked := none }) _
  jvm_step X.here [X.here.top, hx, hd, hm', hret, hn]
  first | (intro acts; rw [hl _ acts rfl rfl rfl]) | rw [hl _ _ rfl rfl rfl]
  exact Steps.refl _
end New
end Jvm.RoadKit
namespace Jvm.Pilot.@@N@@
open Jvm Jvm.ClassFile Sem Op Lib Jvm.Free Jvm.Stand Jvm.LawKit Jvm.RoadKit Bundle Jvm.Pilot.@@N@@.Jvm.D


/-! arrays: what an array holds, as a list of values (AV) or as a function of the place (AI) -/
def AV (Z : State) (h : Heap) (a : Addr) (ty : FieldType) (z : Int32) (vs : List Value) : Prop := ∃ c : Cell, Arr Z h a c ty ∧ c.slots = vs.toArray ∧ vs.length = z.toNatClampNeg ∧ ¬ z < 0
def AI (Z : State) (h : Heap) (a : Addr) (ty : FieldType) (z : Int32) (f : Nat → Int32) : Prop := ∃ c : Cell, Arr Z h a c ty ∧ c.slots.size = z.toNatClampNeg ∧ ¬ z < 0 ∧ ∀ i, i < z.toNatClampNeg → c.slots[i]? = some (.int (f i))
section Arrays
variable {Z : State} {h h' : Heap} {a b : Addr} {ty : FieldType} {z j : Int32} {vs : List Value} {f : Nat → Int32} {sl : Nat} {v : Value} {ws : List Addr} {k : ClassId}
theorem AV.lt (F : AV Z h a ty z vs) : a < h.size := by obtain ⟨c, A, -⟩ := F; exact A.lt
theorem AI.lt (F : AI Z h a ty z f) : a < h.size := by obtain ⟨c, A, -⟩ := F; exact A.lt
theorem AV.ext (F : AV Z h a ty z vs) (E : Ext h h') : AV Z h' a ty z vs := by obtain ⟨c, A, r⟩ := F; exact ⟨c, Arr.ext E A, r⟩
theorem AI.ext (F : AI Z h a ty z f) (E : Ext h h') : AI Z h' a ty z f := by obtain ⟨c, A, r⟩ := F; exact ⟨c, Arr.ext E A, r⟩
theorem AV.other (F : AV Z h b ty z vs) (W : Wr h h' a sl v) (q : b ≠ a) : AV Z h' b ty z vs := by obtain ⟨c, A, r⟩ := F; exact ⟨c, Arr.other W A q, r⟩
theorem AI.other (F : AI Z h b ty z f) (W : Wr h h' a sl v) (q : b ≠ a) : AI Z h' b ty z f := by obtain ⟨c, A, r⟩ := F; exact ⟨c, Arr.other W A q, r⟩
theorem AV.keep (F : AV Z h a ty z vs) (K : Keep h h' ws) (q : a ∉ ws) : AV Z h' a ty z vs := by obtain ⟨c, A, r⟩ := F; exact ⟨c, ⟨K.2.1 _ _ A.1 q, A.2⟩, r⟩
theorem AI.keep (F : AI Z h a ty z f) (K : Keep h h' ws) (q : a ∉ ws) : AI Z h' a ty z f := by obtain ⟨c, A, r⟩ := F; exact ⟨c, ⟨K.2.1 _ _ A.1 q, A.2⟩, r⟩
theorem AV.new (A : Arr Z h a (newA k ty z) ty) (q : ¬ z < 0) : AV Z h a ty z (List.replicate z.toNatClampNeg (defaultValue ty)) := ⟨_, A, by simp [newA], by simp, q⟩
theorem AI.new {d : Int32} (A : Arr Z h a (newA k ty z) ty) (q : ¬ z < 0) (hd : defaultValue ty = .int d) : AI Z h a ty z (fun _ => d) := ⟨_, A, sz_new k ty z, q, fun i hi => by simp [newA, hi, hd]⟩
theorem AV.set {c : Cell} (A : Arr Z h a c ty) (S : c.slots = vs.toArray) (N : vs.length = z.toNatClampNeg) (q : ¬ z < 0) (W : Wr h h' a sl v) : AV Z h' a ty z (vs.set sl v) := by
  refine ⟨_, Arr.same W A, ?_, by simpa using N, q⟩
  simp [Cell.setSlot, S]
theorem AI.set {c : Cell} {x : Int32} (A : Arr Z h a c ty) (S : c.slots.size = z.toNatClampNeg) (q : ¬ z < 0) (G : ∀ i, i < z.toNatClampNeg → c.slots[i]? = some (.int (f i))) (W : Wr h h' a sl (.int x)) : AI Z h' a ty z (fun i => if i = sl then x else f i) := by
  obtain ⟨c', e1, -, -, e4, -, e6, e7⟩ := wr_at W A.1
  have A' := Arr.same W A
  obtain rfl : c' = c.setSlot sl (.int x) := (e7 rfl).1
  refine ⟨_, A', by rw [e4]; exact S, q, fun i hi => ?_⟩
  by_cases hc : i = sl
  · subst hc; simp only [if_pos]; exact (e7 rfl).2.1
  · simp only [if_neg hc]; rw [e6 i hc]; exact G i hi
theorem AI.congr {g : Nat → Int32} (F : AI Z h a ty z f) (q : ∀ i, i < z.toNatClampNeg → f i = g i) : AI Z h a ty z g := by
  obtain ⟨c, A, S, N, G⟩ := F
  exact ⟨c, A, S, N, fun i hi => by rw [← q i hi]; exact G i hi⟩
theorem AV.inb {c : Cell} (S : c.slots = vs.toArray) (N : vs.length = z.toNatClampNeg) (q : ¬ j < 0 ∧ j < z) : ¬ (j < 0 ∨ c.slots.size ≤ j.toNatClampNeg) := inb_of (by rw [S]; simpa using N) q
theorem AV.len {c : Cell} (S : c.slots = vs.toArray) (N : vs.length = z.toNatClampNeg) (q : ¬ z < 0) : c.slots.size.toInt32 = z := len_of (by rw [S]; simpa using N) q
theorem AV.at {c : Cell} (S : c.slots = vs.toArray) (hj : vs[j.toNatClampNeg]? = some v) : c.slots[j.toNatClampNeg]? = some v := by rw [S]; simpa using hj
theorem AI.at {c : Cell} (S : c.slots.size = z.toNatClampNeg) (G : ∀ i, i < z.toNatClampNeg → c.slots[i]? = some (.int (f i))) (q : ¬ (j < 0 ∨ c.slots.size ≤ j.toNatClampNeg)) : c.slots[j.toNatClampNeg]? = some (.int (f j.toNatClampNeg)) := G _ (by rw [← S]; exact Nat.lt_of_not_le fun x => q (Or.inr x))
theorem own_loop {G : Prop} {α : Type} (P : α → Prop) (m : α → Nat) (hs : ∀ a, P a → (∀ b, P b → m b < m a → G) → G) (a : α) (ha : P a) : G := by
  suffices h : ∀ n a, m a = n → P a → G from h _ a rfl ha
  intro n
  induction n using Nat.strongRecOn with
  | ind n ih => intro a hn hp; exact hs a hp fun b hb hlt => ih (m b) (by rw [← hn]; exact hlt) b rfl hb
def AK (h : Heap) (a : Addr) (k : ClassId) : Prop := ∃ c : Cell, h[a]? = some c ∧ c.cls = k
theorem AK.ext (F : AK h a k) (E : Ext h h') : AK h' a k := by obtain ⟨c, h1, h2⟩ := F; exact ⟨c, E.2 _ _ h1, h2⟩
theorem AK.wr (F : AK h b k) (W : Wr h h' a sl v) : AK h' b k := by obtain ⟨c, h1, h2⟩ := F; obtain ⟨c', e1, e2, -⟩ := wr_at W h1; exact ⟨c', e1, e2.trans h2⟩
theorem AK.keep (F : AK h a k) (K : Keep h h' ws) : AK h' a k := by obtain ⟨c, h1, h2⟩ := F; obtain ⟨c', e1, e2, -⟩ := K.2.2 _ _ h1; exact ⟨c', e1, e2.trans h2⟩
theorem AK.cls {c : Cell} (F : AK h a k) (A : Arr Z h a c ty) : c.cls = k := by obtain ⟨c', h1, h2⟩ := F; cases h1.symm.trans A.1; exact h2
theorem AV.arv (F : AV Z h a ty z vs) (d : Value) (hf : ∀ v ∈ vs, fits ty v = true) : ∃ k, Arv Z h a k ty z vs d := by
  obtain ⟨c, A, S, N, q⟩ := F
  refine ⟨_, c, A, rfl, by rw [S]; simpa using N, q, fun i hi => ?_, fun i hi => ?_⟩
  · rw [S] at hi ⊢
    have hi' : i < vs.length := by simpa using hi
    simp [hi']
  · rw [S] at hi
    have hi' : i < vs.length := by simpa using hi
    have e : vs.getD i d = vs[i] := by simp [hi']
    rw [e]; exact hf _ (List.getElem_mem hi')
theorem AV.of_arv {d : Value} (F : Arv Z h a k ty z vs d) (N : vs.length = z.toNatClampNeg) : AV Z h a ty z vs := by
  obtain ⟨c, A, -, S, q, H, -⟩ := F
  refine ⟨c, A, ?_, N, q⟩
  apply Array.ext_getElem?
  intro i
  by_cases hi : i < c.slots.size
  · have hi' : i < vs.length := by rw [N, ← S]; exact hi
    rw [H i hi]; simp [hi']
  · have hi' : ¬ i < vs.length := by rw [N, ← S]; exact hi
    simp [Array.getElem?_eq_none (Nat.le_of_not_lt hi), List.getElem?_eq_none (Nat.le_of_not_lt hi')]
end Arrays


theorem own_and3 (x : Int32) : (x &&& 3) = 0 ∨ (x &&& 3) = 1 ∨ (x &&& 3) = 2 ∨ (x &&& 3) = 3 := by
  have e : (x &&& 3).toInt = x.toInt % 2 ^ 2 := Jvm.Kit.i32_mask x 3 (k := 2) (by decide) (by decide)
  have h : x.toInt % 2 ^ 2 = 0 ∨ x.toInt % 2 ^ 2 = 1 ∨ x.toInt % 2 ^ 2 = 2 ∨ x.toInt % 2 ^ 2 = 3 := by omega
  rcases h with h | h | h | h
  · exact Or.inl (Int32.toInt_inj.mp (e.trans h))
  · exact Or.inr (Or.inl (Int32.toInt_inj.mp (e.trans h)))
  · exact Or.inr (Or.inr (Or.inl (Int32.toInt_inj.mp (e.trans h))))
  · exact Or.inr (Or.inr (Or.inr (Int32.toInt_inj.mp (e.trans h))))

theorem d1_0 : decode prog_63_method_1_code 0 = .ok (.aload_n 0, 1) := by decide +kernel
theorem d1_1 : decode prog_63_method_1_code 1 = .ok (.invokespecial 1, 3) := by decide +kernel
theorem d1_4 : decode prog_63_method_1_code 4 = .ok (.aload_n 0, 1) := by decide +kernel
theorem d1_5 : decode prog_63_method_1_code 5 = .ok (.iload_n 1, 1) := by decide +kernel
theorem d1_6 : decode prog_63_method_1_code 6 = .ok (.putfield 7, 3) := by decide +kernel
theorem d1_9 : decode prog_63_method_1_code 9 = .ok (.aload_n 0, 1) := by decide +kernel
theorem d1_10 : decode prog_63_method_1_code 10 = .ok (.iload_n 1, 1) := by decide +kernel
theorem d1_11 : decode prog_63_method_1_code 11 = .ok (.iconst 1, 1) := by decide +kernel
theorem d1_12 : decode prog_63_method_1_code 12 = .ok (.iadd, 1) := by decide +kernel
theorem d1_13 : decode prog_63_method_1_code 13 = .ok (.newarray .int, 2) := by decide +kernel
theorem d1_15 : decode prog_63_method_1_code 15 = .ok (.putfield 13, 3) := by decide +kernel
theorem d1_18 : decode prog_63_method_1_code 18 = .ok (.iconst 0, 1) := by decide +kernel
theorem d1_19 : decode prog_63_method_1_code 19 = .ok (.istore 7, 2) := by decide +kernel
theorem d1_21 : decode prog_63_method_1_code 21 = .ok (.iload 7, 2) := by decide +kernel
theorem d1_23 : decode prog_63_method_1_code 23 = .ok (.iload 6, 2) := by decide +kernel
theorem d1_25 : decode prog_63_method_1_code 25 = .ok (.if_icmp .ge 39, 3) := by decide +kernel
theorem d1_28 : decode prog_63_method_1_code 28 = .ok (.aload_n 0, 1) := by decide +kernel
theorem d1_29 : decode prog_63_method_1_code 29 = .ok (.getfield 13, 3) := by decide +kernel
theorem d1_32 : decode prog_63_method_1_code 32 = .ok (.aload_n 2, 1) := by decide +kernel
theorem d1_33 : decode prog_63_method_1_code 33 = .ok (.iload 7, 2) := by decide +kernel
theorem d1_35 : decode prog_63_method_1_code 35 = .ok (.iaload, 1) := by decide +kernel
theorem d1_36 : decode prog_63_method_1_code 36 = .ok (.iconst 1, 1) := by decide +kernel
theorem d1_37 : decode prog_63_method_1_code 37 = .ok (.iadd, 1) := by decide +kernel
theorem d1_38 : decode prog_63_method_1_code 38 = .ok (.dup2, 1) := by decide +kernel
theorem d1_39 : decode prog_63_method_1_code 39 = .ok (.iaload, 1) := by decide +kernel
theorem d1_40 : decode prog_63_method_1_code 40 = .ok (.iconst 1, 1) := by decide +kernel
theorem d1_41 : decode prog_63_method_1_code 41 = .ok (.iadd, 1) := by decide +kernel
theorem d1_42 : decode prog_63_method_1_code 42 = .ok (.iastore, 1) := by decide +kernel
theorem d1_43 : decode prog_63_method_1_code 43 = .ok (.aload_n 0, 1) := by decide +kernel
theorem d1_44 : decode prog_63_method_1_code 44 = .ok (.getfield 13, 3) := by decide +kernel
theorem d1_47 : decode prog_63_method_1_code 47 = .ok (.aload_n 3, 1) := by decide +kernel
theorem d1_48 : decode prog_63_method_1_code 48 = .ok (.iload 7, 2) := by decide +kernel
theorem d1_50 : decode prog_63_method_1_code 50 = .ok (.iaload, 1) := by decide +kernel
theorem d1_51 : decode prog_63_method_1_code 51 = .ok (.iconst 1, 1) := by decide +kernel
theorem d1_52 : decode prog_63_method_1_code 52 = .ok (.iadd, 1) := by decide +kernel
theorem d1_53 : decode prog_63_method_1_code 53 = .ok (.dup2, 1) := by decide +kernel
theorem d1_54 : decode prog_63_method_1_code 54 = .ok (.iaload, 1) := by decide +kernel
theorem d1_55 : decode prog_63_method_1_code 55 = .ok (.iconst 1, 1) := by decide +kernel
theorem d1_56 : decode prog_63_method_1_code 56 = .ok (.iadd, 1) := by decide +kernel
theorem d1_57 : decode prog_63_method_1_code 57 = .ok (.iastore, 1) := by decide +kernel
theorem d1_58 : decode prog_63_method_1_code 58 = .ok (.iinc 7 1, 3) := by decide +kernel
theorem d1_61 : decode prog_63_method_1_code 61 = .ok (.goto (-40), 3) := by decide +kernel
theorem d1_64 : decode prog_63_method_1_code 64 = .ok (.iconst 0, 1) := by decide +kernel
theorem d1_65 : decode prog_63_method_1_code 65 = .ok (.istore 7, 2) := by decide +kernel
theorem d1_67 : decode prog_63_method_1_code 67 = .ok (.iload 7, 2) := by decide +kernel
theorem d1_69 : decode prog_63_method_1_code 69 = .ok (.iload_n 1, 1) := by decide +kernel
theorem d1_70 : decode prog_63_method_1_code 70 = .ok (.if_icmp .ge 28, 3) := by decide +kernel
theorem d1_73 : decode prog_63_method_1_code 73 = .ok (.aload_n 0, 1) := by decide +kernel
theorem d1_74 : decode prog_63_method_1_code 74 = .ok (.getfield 13, 3) := by decide +kernel
theorem d1_77 : decode prog_63_method_1_code 77 = .ok (.iload 7, 2) := by decide +kernel
theorem d1_79 : decode prog_63_method_1_code 79 = .ok (.iconst 1, 1) := by decide +kernel
theorem d1_80 : decode prog_63_method_1_code 80 = .ok (.iadd, 1) := by decide +kernel
theorem d1_81 : decode prog_63_method_1_code 81 = .ok (.dup2, 1) := by decide +kernel
theorem d1_82 : decode prog_63_method_1_code 82 = .ok (.iaload, 1) := by decide +kernel
theorem d1_83 : decode prog_63_method_1_code 83 = .ok (.aload_n 0, 1) := by decide +kernel
theorem d1_84 : decode prog_63_method_1_code 84 = .ok (.getfield 13, 3) := by decide +kernel
theorem d1_87 : decode prog_63_method_1_code 87 = .ok (.iload 7, 2) := by decide +kernel
theorem d1_89 : decode prog_63_method_1_code 89 = .ok (.iaload, 1) := by decide +kernel
theorem d1_90 : decode prog_63_method_1_code 90 = .ok (.iadd, 1) := by decide +kernel
theorem d1_91 : decode prog_63_method_1_code 91 = .ok (.iastore, 1) := by decide +kernel
theorem d1_92 : decode prog_63_method_1_code 92 = .ok (.iinc 7 1, 3) := by decide +kernel
theorem d1_95 : decode prog_63_method_1_code 95 = .ok (.goto (-28), 3) := by decide +kernel
theorem d1_98 : decode prog_63_method_1_code 98 = .ok (.aload_n 0, 1) := by decide +kernel
theorem d1_99 : decode prog_63_method_1_code 99 = .ok (.iconst 2, 1) := by decide +kernel
theorem d1_100 : decode prog_63_method_1_code 100 = .ok (.iload 6, 2) := by decide +kernel
theorem d1_102 : decode prog_63_method_1_code 102 = .ok (.imul, 1) := by decide +kernel
theorem d1_103 : decode prog_63_method_1_code 103 = .ok (.newarray .int, 2) := by decide +kernel
theorem d1_105 : decode prog_63_method_1_code 105 = .ok (.putfield 17, 3) := by decide +kernel
theorem d1_108 : decode prog_63_method_1_code 108 = .ok (.aload_n 0, 1) := by decide +kernel
theorem d1_109 : decode prog_63_method_1_code 109 = .ok (.iconst 2, 1) := by decide +kernel
theorem d1_110 : decode prog_63_method_1_code 110 = .ok (.iload 6, 2) := by decide +kernel
theorem d1_112 : decode prog_63_method_1_code 112 = .ok (.imul, 1) := by decide +kernel
theorem d1_113 : decode prog_63_method_1_code 113 = .ok (.newarray .int, 2) := by decide +kernel
theorem d1_115 : decode prog_63_method_1_code 115 = .ok (.putfield 20, 3) := by decide +kernel
theorem d1_118 : decode prog_63_method_1_code 118 = .ok (.aload_n 0, 1) := by decide +kernel
theorem d1_119 : decode prog_63_method_1_code 119 = .ok (.iconst 2, 1) := by decide +kernel
theorem d1_120 : decode prog_63_method_1_code 120 = .ok (.iload 6, 2) := by decide +kernel
theorem d1_122 : decode prog_63_method_1_code 122 = .ok (.imul, 1) := by decide +kernel
theorem d1_123 : decode prog_63_method_1_code 123 = .ok (.newarray .int, 2) := by decide +kernel
theorem d1_125 : decode prog_63_method_1_code 125 = .ok (.putfield 23, 3) := by decide +kernel
theorem d1_128 : decode prog_63_method_1_code 128 = .ok (.aload_n 0, 1) := by decide +kernel
theorem d1_129 : decode prog_63_method_1_code 129 = .ok (.iconst 2, 1) := by decide +kernel
theorem d1_130 : decode prog_63_method_1_code 130 = .ok (.iload 6, 2) := by decide +kernel
theorem d1_132 : decode prog_63_method_1_code 132 = .ok (.imul, 1) := by decide +kernel
theorem d1_133 : decode prog_63_method_1_code 133 = .ok (.newarray .long, 2) := by decide +kernel
theorem d1_135 : decode prog_63_method_1_code 135 = .ok (.putfield 26, 3) := by decide +kernel
theorem d1_138 : decode prog_63_method_1_code 138 = .ok (.aload_n 0, 1) := by decide +kernel
theorem d1_139 : decode prog_63_method_1_code 139 = .ok (.iload 6, 2) := by decide +kernel
theorem d1_141 : decode prog_63_method_1_code 141 = .ok (.newarray .int, 2) := by decide +kernel
theorem d1_143 : decode prog_63_method_1_code 143 = .ok (.putfield 30, 3) := by decide +kernel
theorem d1_146 : decode prog_63_method_1_code 146 = .ok (.iload_n 1, 1) := by decide +kernel
theorem d1_147 : decode prog_63_method_1_code 147 = .ok (.newarray .int, 2) := by decide +kernel
theorem d1_149 : decode prog_63_method_1_code 149 = .ok (.astore 7, 2) := by decide +kernel
theorem d1_151 : decode prog_63_method_1_code 151 = .ok (.aload_n 0, 1) := by decide +kernel
theorem d1_152 : decode prog_63_method_1_code 152 = .ok (.getfield 13, 3) := by decide +kernel
theorem d1_155 : decode prog_63_method_1_code 155 = .ok (.iconst 0, 1) := by decide +kernel
theorem d1_156 : decode prog_63_method_1_code 156 = .ok (.aload 7, 2) := by decide +kernel
theorem d1_158 : decode prog_63_method_1_code 158 = .ok (.iconst 0, 1) := by decide +kernel
theorem d1_159 : decode prog_63_method_1_code 159 = .ok (.iload_n 1, 1) := by decide +kernel
theorem d1_160 : decode prog_63_method_1_code 160 = .ok (.invokestatic 33, 3) := by decide +kernel
theorem d1_163 : decode prog_63_method_1_code 163 = .ok (.iconst 0, 1) := by decide +kernel
theorem d1_164 : decode prog_63_method_1_code 164 = .ok (.istore 8, 2) := by decide +kernel
theorem d1_166 : decode prog_63_method_1_code 166 = .ok (.iload 8, 2) := by decide +kernel
theorem d1_168 : decode prog_63_method_1_code 168 = .ok (.iload 6, 2) := by decide +kernel
theorem d1_170 : decode prog_63_method_1_code 170 = .ok (.if_icmp .ge 123, 3) := by decide +kernel
theorem d1_173 : decode prog_63_method_1_code 173 = .ok (.aload 7, 2) := by decide +kernel
theorem d1_175 : decode prog_63_method_1_code 175 = .ok (.aload_n 2, 1) := by decide +kernel
theorem d1_176 : decode prog_63_method_1_code 176 = .ok (.iload 8, 2) := by decide +kernel
theorem d1_178 : decode prog_63_method_1_code 178 = .ok (.iaload, 1) := by decide +kernel
theorem d1_179 : decode prog_63_method_1_code 179 = .ok (.dup2, 1) := by decide +kernel
theorem d1_180 : decode prog_63_method_1_code 180 = .ok (.iaload, 1) := by decide +kernel
theorem d1_181 : decode prog_63_method_1_code 181 = .ok (.dup_x2, 1) := by decide +kernel
theorem d1_182 : decode prog_63_method_1_code 182 = .ok (.iconst 1, 1) := by decide +kernel
theorem d1_183 : decode prog_63_method_1_code 183 = .ok (.iadd, 1) := by decide +kernel
theorem d1_184 : decode prog_63_method_1_code 184 = .ok (.iastore, 1) := by decide +kernel
theorem d1_185 : decode prog_63_method_1_code 185 = .ok (.istore 9, 2) := by decide +kernel
theorem d1_187 : decode prog_63_method_1_code 187 = .ok (.aload 7, 2) := by decide +kernel
theorem d1_189 : decode prog_63_method_1_code 189 = .ok (.aload_n 3, 1) := by decide +kernel
theorem d1_190 : decode prog_63_method_1_code 190 = .ok (.iload 8, 2) := by decide +kernel
theorem d1_192 : decode prog_63_method_1_code 192 = .ok (.iaload, 1) := by decide +kernel
theorem d1_193 : decode prog_63_method_1_code 193 = .ok (.dup2, 1) := by decide +kernel
theorem d1_194 : decode prog_63_method_1_code 194 = .ok (.iaload, 1) := by decide +kernel
theorem d1_195 : decode prog_63_method_1_code 195 = .ok (.dup_x2, 1) := by decide +kernel
theorem d1_196 : decode prog_63_method_1_code 196 = .ok (.iconst 1, 1) := by decide +kernel
theorem d1_197 : decode prog_63_method_1_code 197 = .ok (.iadd, 1) := by decide +kernel
theorem d1_198 : decode prog_63_method_1_code 198 = .ok (.iastore, 1) := by decide +kernel
theorem d1_199 : decode prog_63_method_1_code 199 = .ok (.istore 10, 2) := by decide +kernel
theorem d1_201 : decode prog_63_method_1_code 201 = .ok (.aload_n 0, 1) := by decide +kernel
theorem d1_202 : decode prog_63_method_1_code 202 = .ok (.getfield 17, 3) := by decide +kernel
theorem d1_205 : decode prog_63_method_1_code 205 = .ok (.iload 9, 2) := by decide +kernel
theorem d1_207 : decode prog_63_method_1_code 207 = .ok (.aload_n 3, 1) := by decide +kernel
theorem d1_208 : decode prog_63_method_1_code 208 = .ok (.iload 8, 2) := by decide +kernel
theorem d1_210 : decode prog_63_method_1_code 210 = .ok (.iaload, 1) := by decide +kernel
theorem d1_211 : decode prog_63_method_1_code 211 = .ok (.iastore, 1) := by decide +kernel
theorem d1_212 : decode prog_63_method_1_code 212 = .ok (.aload_n 0, 1) := by decide +kernel
theorem d1_213 : decode prog_63_method_1_code 213 = .ok (.getfield 17, 3) := by decide +kernel
theorem d1_216 : decode prog_63_method_1_code 216 = .ok (.iload 10, 2) := by decide +kernel
theorem d1_218 : decode prog_63_method_1_code 218 = .ok (.aload_n 2, 1) := by decide +kernel
theorem d1_219 : decode prog_63_method_1_code 219 = .ok (.iload 8, 2) := by decide +kernel
theorem d1_221 : decode prog_63_method_1_code 221 = .ok (.iaload, 1) := by decide +kernel
theorem d1_222 : decode prog_63_method_1_code 222 = .ok (.iastore, 1) := by decide +kernel
theorem d1_223 : decode prog_63_method_1_code 223 = .ok (.aload_n 0, 1) := by decide +kernel
theorem d1_224 : decode prog_63_method_1_code 224 = .ok (.getfield 20, 3) := by decide +kernel
theorem d1_227 : decode prog_63_method_1_code 227 = .ok (.iload 9, 2) := by decide +kernel
theorem d1_229 : decode prog_63_method_1_code 229 = .ok (.iload 10, 2) := by decide +kernel
theorem d1_231 : decode prog_63_method_1_code 231 = .ok (.iastore, 1) := by decide +kernel
theorem d1_232 : decode prog_63_method_1_code 232 = .ok (.aload_n 0, 1) := by decide +kernel
theorem d1_233 : decode prog_63_method_1_code 233 = .ok (.getfield 20, 3) := by decide +kernel
theorem d1_236 : decode prog_63_method_1_code 236 = .ok (.iload 10, 2) := by decide +kernel
theorem d1_238 : decode prog_63_method_1_code 238 = .ok (.iload 9, 2) := by decide +kernel
theorem d1_240 : decode prog_63_method_1_code 240 = .ok (.iastore, 1) := by decide +kernel
theorem d1_241 : decode prog_63_method_1_code 241 = .ok (.aload_n 0, 1) := by decide +kernel
theorem d1_242 : decode prog_63_method_1_code 242 = .ok (.getfield 23, 3) := by decide +kernel
theorem d1_245 : decode prog_63_method_1_code 245 = .ok (.iload 9, 2) := by decide +kernel
theorem d1_247 : decode prog_63_method_1_code 247 = .ok (.aload 4, 2) := by decide +kernel
theorem d1_249 : decode prog_63_method_1_code 249 = .ok (.iload 8, 2) := by decide +kernel
theorem d1_251 : decode prog_63_method_1_code 251 = .ok (.iaload, 1) := by decide +kernel
theorem d1_252 : decode prog_63_method_1_code 252 = .ok (.iastore, 1) := by decide +kernel
theorem d1_253 : decode prog_63_method_1_code 253 = .ok (.aload_n 0, 1) := by decide +kernel
theorem d1_254 : decode prog_63_method_1_code 254 = .ok (.getfield 26, 3) := by decide +kernel
theorem d1_257 : decode prog_63_method_1_code 257 = .ok (.iload 9, 2) := by decide +kernel
theorem d1_259 : decode prog_63_method_1_code 259 = .ok (.aload 5, 2) := by decide +kernel
theorem d1_261 : decode prog_63_method_1_code 261 = .ok (.iload 8, 2) := by decide +kernel
theorem d1_263 : decode prog_63_method_1_code 263 = .ok (.laload, 1) := by decide +kernel
theorem d1_264 : decode prog_63_method_1_code 264 = .ok (.lastore, 1) := by decide +kernel
theorem d1_265 : decode prog_63_method_1_code 265 = .ok (.aload_n 0, 1) := by decide +kernel
theorem d1_266 : decode prog_63_method_1_code 266 = .ok (.getfield 26, 3) := by decide +kernel
theorem d1_269 : decode prog_63_method_1_code 269 = .ok (.iload 10, 2) := by decide +kernel
theorem d1_271 : decode prog_63_method_1_code 271 = .ok (.aload 5, 2) := by decide +kernel
theorem d1_273 : decode prog_63_method_1_code 273 = .ok (.iload 8, 2) := by decide +kernel
theorem d1_275 : decode prog_63_method_1_code 275 = .ok (.laload, 1) := by decide +kernel
theorem d1_276 : decode prog_63_method_1_code 276 = .ok (.lneg, 1) := by decide +kernel
theorem d1_277 : decode prog_63_method_1_code 277 = .ok (.lastore, 1) := by decide +kernel
theorem d1_278 : decode prog_63_method_1_code 278 = .ok (.aload_n 0, 1) := by decide +kernel
theorem d1_279 : decode prog_63_method_1_code 279 = .ok (.getfield 30, 3) := by decide +kernel
theorem d1_282 : decode prog_63_method_1_code 282 = .ok (.iload 8, 2) := by decide +kernel
theorem d1_284 : decode prog_63_method_1_code 284 = .ok (.iload 9, 2) := by decide +kernel
theorem d1_286 : decode prog_63_method_1_code 286 = .ok (.iastore, 1) := by decide +kernel
theorem d1_287 : decode prog_63_method_1_code 287 = .ok (.iinc 8 1, 3) := by decide +kernel
theorem d1_290 : decode prog_63_method_1_code 290 = .ok (.goto (-124), 3) := by decide +kernel
theorem d1_293 : decode prog_63_method_1_code 293 = .ok (.return_, 1) := by decide +kernel
theorem pn_0 : plainName "com/example/hindsight/hindsight/solvers/ResidualNetwork" = true := by first | (simp [plainName, overriddenIn]; done) | decide +kernel
theorem ef_1 (m : MethodId) (x0 : Addr) (x2 : Addr) (x3 : Addr) (x4 : Addr) (x5 : Addr) : entryFrame m #[(.ref x0), (.int (2 : Int32)), (.ref x2), (.ref x3), (.ref x4), (.ref x5), (.int (2 : Int32))] 11 = mkF m 0 #[.val (.ref x0), .val (.int (2 : Int32)), .val (.ref x2), .val (.ref x3), .val (.ref x4), .val (.ref x5), .val (.int (2 : Int32)), .unset, .unset, .unset, .unset] [] := by first | (simp [entryFrame, mkF, argsToLocals, Value.category]; done) | rfl
def Q1 (Z : State) (a1 : Addr) (a3 : Addr) (a4 : Addr) (a5 : Addr) (a6 : Addr) (x1 : Int32) (x2 : Int32) (h0 : Heap) (n0 : Nat) (v : Option Value) (h : Heap) (L : List Loc) : Prop := ∃ mt : Addr, ∃ r : Addr, v = none ∧ Fr n0 L ∧ Keep h0 h [a1] ∧ n0 ≤ mt ∧ h0.size ≤ mt ∧ n0 ≤ r ∧ h0.size ≤ r ∧ Fld Z h a1 "com/example/hindsight/hindsight/solvers/ResidualNetwork" "mate" "[I" (.ref mt) ∧ Fld Z h a1 "com/example/hindsight/hindsight/solvers/ResidualNetwork" "residual" "[I" (.ref r) ∧ AV Z h mt .int (4 : Int32) [(.int (2 : Int32)), (.int (3 : Int32)), (.int (0 : Int32)), (.int (1 : Int32))] ∧ AV Z h r .int (4 : Int32) [(.int x1), (.int (0 : Int32)), (.int (0 : Int32)), (.int x2)] ∧ mt ≠ r
set_option maxRecDepth 65536 in
set_option maxHeartbeats 40000000 in
theorem rm1 (l : Launch) (Z : State) (a0 : Array Value) (hw : ∀ d ∈ tables_1, d.before a0 Z = true) (ws : List Jvm.Cond) (a1 : Addr) (a3 : Addr) (a4 : Addr) (a5 : Addr) (a6 : Addr) (x1 : Int32) (x2 : Int32) (h0 : Heap) (n0 : Nat) (Z0 : n0 ≤ h0.size) (E_a1 : Exa Z h0 a1 "com/example/hindsight/hindsight/solvers/ResidualNetwork") (g_a1 : n0 ≤ a1) (F_a1_nodes : Fld Z h0 a1 "com/example/hindsight/hindsight/solvers/ResidualNetwork" "nodes" "I" (.int (0 : Int32))) (F_a1_firstArc : Fld Z h0 a1 "com/example/hindsight/hindsight/solvers/ResidualNetwork" "firstArc" "[I" .null) (F_a1_head : Fld Z h0 a1 "com/example/hindsight/hindsight/solvers/ResidualNetwork" "head" "[I" .null) (F_a1_mate : Fld Z h0 a1 "com/example/hindsight/hindsight/solvers/ResidualNetwork" "mate" "[I" .null) (F_a1_residual : Fld Z h0 a1 "com/example/hindsight/hindsight/solvers/ResidualNetwork" "residual" "[I" .null) (F_a1_cost : Fld Z h0 a1 "com/example/hindsight/hindsight/solvers/ResidualNetwork" "cost" "[J" .null) (F_a1_edgeArc : Fld Z h0 a1 "com/example/hindsight/hindsight/solvers/ResidualNetwork" "edgeArc" "[I" .null) (V_a3 : AV Z h0 a3 .int (2 : Int32) [(.int (0 : Int32)), (.int (1 : Int32))]) (V_a4 : AV Z h0 a4 .int (2 : Int32) [(.int (1 : Int32)), (.int (0 : Int32))]) (V_a5 : AV Z h0 a5 .int (2 : Int32) [(.int x1), (.int x2)]) (V_a6 : AV Z h0 a6 .long (2 : Int32) [(.long (5 : Int64)), (.long (-7 : Int64))]) (ne_a1_a3 : a1 ≠ a3) (ne_a1_a4 : a1 ≠ a4) (ne_a1_a5 : a1 ≠ a5) (ne_a1_a6 : a1 ≠ a6) :
    MetFree l (⟨"com/example/hindsight/hindsight/solvers/ResidualNetwork", "<init>", "(I[I[I[I[JI)V"⟩ : MethodName) (head1 (Jvm.Cond.code (⟨"com/example/hindsight/hindsight/solvers/ResidualNetwork", "<init>", "(I[I[I[I[JI)V"⟩ : MethodName) prog_63_method_1_code 11 none :: ws) ({ frames := 1, cells := 7, slots := 23, locals := 21 } : Room)) (fun a U => a = #[(.ref a1), (.int (2 : Int32)), (.ref a3), (.ref a4), (.ref a5), (.ref a6), (.int (2 : Int32))] ∧ Z.Warmed39 U.vm ∧ U.heap = h0) (fun _ _ _ _ _ => True) (fun _ U o U' => ∃ v L, o = .returned v ∧ Q1 Z a1 a3 a4 a5 a6 x1 x2 h0 n0 v U'.heap L ∧ FrameEnd U o U' L ({ frames := 1, cells := 7, slots := 23, locals := 21 } : Room).cells ({ frames := 1, cells := 7, slots := 23, locals := 21 } : Room).slots) := by
  refine MetFree.of_bodySF (plainFor_of_name pn_0) hisR ?_
  intro p e s m args below meth c s₁ Bd hml0 hP hK
  obtain ⟨rfl, hZ, hh⟩ := hP
  have hx := Bd.exec
  have hby := Bd.bytes
  have hml : c.maxLocals = 11 := hml0
  have hown : s.vm.findClass "com/example/hindsight/hindsight/solvers/ResidualNetwork" = some m.cls := findClass_of_methodNamed Bd.named
  have hnm := (name_of_methodNamed Bd.named Bd.method).1
  have X0 : Stand p l e ({ frames := 1, cells := 7, slots := 23, locals := 21 } : Room) s m #[(.ref a1), (.int (2 : Int32)), (.ref a3), (.ref a4), (.ref a5), (.ref a6), (.int (2 : Int32))] below meth c s₁ [] 0 0 := Stand.of_body Bd
  have e0 : s₁.heap = h0 := by rw [← hh, Bd.state]; rfl
  have N0 := Fr.nil n0
  have pre0 : ∀ t, Steps p.tables e below (s₁.setTop (mkF m 0 #[.val (.ref a1), .val (.int (2 : Int32)), .val (.ref a3), .val (.ref a4), .val (.ref a5), .val (.ref a6), .val (.int (2 : Int32)), .unset, .unset, .unset, .unset] [])) t → Steps p.tables e below (s₁.setTop (entryFrame m #[(.ref a1), (.int (2 : Int32)), (.ref a3), (.ref a4), (.ref a5), (.ref a6), (.int (2 : Int32))] 11)) t := fun t k => castTop (ef_1 m a1 a3 a4 a5 a6) k
  obtain ⟨T1, X1, e1, st1⟩ := initO X0 hx hZ hown (hw _ (List.mem_of_getElem? (i := 10) rfl)) (hw _ (List.mem_of_getElem? (i := 11) rfl)) (hw _ (List.mem_of_getElem? (i := 12) rfl)) e0 (g := (mkF m 1 #[.val (.ref a1), .val (.int (2 : Int32)), .val (.ref a3), .val (.ref a4), .val (.ref a5), .val (.ref a6), .val (.int (2 : Int32)), .unset, .unset, .unset, .unset] [(.ref a1)])) rfl (by rw [hml]; rfl) rfl (hb hby d1_1) (by decide) (W := 0) (by show 2 * 0 + _ ≤ _; exact Nat.le_of_eq rfl) (by decide)
  obtain ⟨T2, h2, X2, e2, W2, st2⟩ := putF X1 hx hZ hown (host := "") (Or.inl (hw _ (List.mem_of_getElem? (i := 13) rfl))) Via.refl e1 F_a1_nodes E_a1 (Or.inr ⟨(hw _ (List.mem_of_getElem? (i := 14) rfl)), rfl, hnm⟩) (hw _ (List.mem_of_getElem? (i := 5) rfl)) (ty := .int) (by decide) rfl rfl (g := (mkF m 6 #[.val (.ref a1), .val (.int (2 : Int32)), .val (.ref a3), .val (.ref a4), .val (.ref a5), .val (.ref a6), .val (.int (2 : Int32)), .unset, .unset, .unset, .unset] [(.int (2 : Int32)), (.ref a1)])) rfl rfl (hb hby d1_6)
  have Fw2 := F_a1_nodes.same W2
  have K2 : Keep h0 h2 [a1] := (Keep.refl h0 [a1]).wr W2 (Or.inl (List.mem_of_getElem? (i := 0) rfl))
  have N2 := Fr.snoc X2 N0 g_a1
  obtain ⟨T3, h3, k3, X3, e3, E3, A3, st3⟩ := newP X2 hx hZ (hw _ (List.mem_of_getElem? (i := 0) rfl)) e2 (g := (mkF m 13 #[.val (.ref a1), .val (.int (2 : Int32)), .val (.ref a3), .val (.ref a4), .val (.ref a5), .val (.ref a6), .val (.int (2 : Int32)), .unset, .unset, .unset, .unset] [(.int (3 : Int32)), (.ref a1)])) rfl (hb hby d1_13) rfl (by decide) (cap := 3) (by decide) (by decide) (by decide) (by decide)
  obtain ⟨b3, g3⟩ : ∃ z, z = h2.size := ⟨_, rfl⟩
  rw [← g3] at A3 st3
  have F4 := (E_a1.wr W2)
  have ne5 : a1 ≠ b3 := Nat.ne_of_lt (Nat.lt_of_lt_of_le F4.lt (Nat.le_of_eq g3.symm))
  have F6 := (V_a3.other W2 (Ne.symm ne_a1_a3))
  have ne7 : a3 ≠ b3 := Nat.ne_of_lt (Nat.lt_of_lt_of_le F6.lt (Nat.le_of_eq g3.symm))
  have F8 := (V_a4.other W2 (Ne.symm ne_a1_a4))
  have ne9 : a4 ≠ b3 := Nat.ne_of_lt (Nat.lt_of_lt_of_le F8.lt (Nat.le_of_eq g3.symm))
  have F10 := (V_a5.other W2 (Ne.symm ne_a1_a5))
  have ne11 : a5 ≠ b3 := Nat.ne_of_lt (Nat.lt_of_lt_of_le F10.lt (Nat.le_of_eq g3.symm))
  have F12 := (V_a6.other W2 (Ne.symm ne_a1_a6))
  have ne13 : a6 ≠ b3 := Nat.ne_of_lt (Nat.lt_of_lt_of_le F12.lt (Nat.le_of_eq g3.symm))
  have g_b3 : n0 ≤ b3 := Nat.le_trans (Nat.le_trans Z0 K2.1) (Nat.le_of_eq g3.symm)
  have sz_b3 : h0.size ≤ b3 := Nat.le_trans K2.1 (Nat.le_of_eq g3.symm)
  have K3 : Keep h0 h3 [a1] := K2.ext E3
  have V_b3 : AV Z h3 b3 .int (3 : Int32) [(.int (0 : Int32)), (.int (0 : Int32)), (.int (0 : Int32))] := AV.new A3 (by decide)
  have F15 := (F4.ext E3)
  have F16 := ((F_a1_firstArc.other W2 (Or.inr (slot_ne (Or.inr (hw _ (List.mem_of_getElem? (i := 16) rfl))) (Or.inr (hw _ (List.mem_of_getElem? (i := 14) rfl))) (by decide) (t := (.array .int)) (t' := .int) (by decide) (by decide)))).ext E3)
  obtain ⟨T14, h14, X14, e14, W14, st14⟩ := putF X3 hx hZ hown (host := "") (Or.inl (hw _ (List.mem_of_getElem? (i := 15) rfl))) Via.refl e3 F16 F15 (Or.inr ⟨(hw _ (List.mem_of_getElem? (i := 16) rfl)), rfl, hnm⟩) (hw _ (List.mem_of_getElem? (i := 5) rfl)) (ty := (.array .int)) (by decide) rfl rfl (g := (mkF m 15 #[.val (.ref a1), .val (.int (2 : Int32)), .val (.ref a3), .val (.ref a4), .val (.ref a5), .val (.ref a6), .val (.int (2 : Int32)), .unset, .unset, .unset, .unset] [(.ref b3), (.ref a1)])) rfl rfl (hb hby d1_15)
  have Fw14 := F16.same W14
  have K14 : Keep h0 h14 [a1] := K3.wr W14 (Or.inl (List.mem_of_getElem? (i := 0) rfl))
  have N14 := Fr.snoc X14 N2 g_a1
  obtain ⟨T17, X17, e17, st17⟩ := getF X14 hx hZ hown (host := "") (Or.inl (hw _ (List.mem_of_getElem? (i := 15) rfl))) Via.refl e14 Fw14 (g := (mkF m 29 #[.val (.ref a1), .val (.int (2 : Int32)), .val (.ref a3), .val (.ref a4), .val (.ref a5), .val (.ref a6), .val (.int (2 : Int32)), .val (.int (0 : Int32)), .unset, .unset, .unset] [(.ref a1)])) rfl rfl (hb hby d1_29)
  have F19 := ((F6.ext E3).other W14 (Ne.symm ne_a1_a3))
  obtain ⟨cl18, A18, S18, Nl18, M18⟩ := id F19
  have hin18 : ¬ ((0 : Int32) < 0 ∨ cl18.slots.size ≤ ((0 : Int32)).toNatClampNeg) := AV.inb S18 Nl18 ⟨by decide, by decide⟩
  have hat18 : cl18.slots[((0 : Int32)).toNatClampNeg]? = some (.int (0 : Int32)) := AV.at S18 rfl
  have F21 := (V_b3.other W14 (Ne.symm ne5))
  obtain ⟨cl20, A20, S20, Nl20, M20⟩ := id F21
  have hin20 : ¬ ((1 : Int32) < 0 ∨ cl20.slots.size ≤ ((1 : Int32)).toNatClampNeg) := AV.inb S20 Nl20 ⟨by decide, by decide⟩
  have hat20 : cl20.slots[((1 : Int32)).toNatClampNeg]? = some (.int (0 : Int32)) := AV.at S20 rfl
  obtain ⟨cl22, A22, S22, Nl22, M22⟩ := id F21
  have hin22 : ¬ ((1 : Int32) < 0 ∨ cl22.slots.size ≤ ((1 : Int32)).toNatClampNeg) := AV.inb S22 Nl22 ⟨by decide, by decide⟩
  obtain ⟨T22, h22, X22, e22, W22, st22⟩ := stI X17 hx hZ e17 A22 (j := (1 : Int32)) hin22 (g := (mkF m 42 #[.val (.ref a1), .val (.int (2 : Int32)), .val (.ref a3), .val (.ref a4), .val (.ref a5), .val (.ref a6), .val (.int (2 : Int32)), .val (.int (0 : Int32)), .unset, .unset, .unset] [(.int (1 : Int32)), (.int (1 : Int32)), (.ref b3)])) rfl rfl (hb hby d1_42)
  have V22 : AV Z h22 b3 .int (3 : Int32) [(.int (0 : Int32)), (.int (1 : Int32)), (.int (0 : Int32))] := AV.set A22 S22 Nl22 M22 W22
  have K22 : Keep h0 h22 [a1] := K14.wr W22 (Or.inr sz_b3)
  have N22 := Fr.snoc X22 N14 g_b3
  have F24 := (Fw14.other W22 (Or.inl ne5))
  obtain ⟨T23, X23, e23, st23⟩ := getF X22 hx hZ hown (host := "") (Or.inl (hw _ (List.mem_of_getElem? (i := 15) rfl))) Via.refl e22 F24 (g := (mkF m 44 #[.val (.ref a1), .val (.int (2 : Int32)), .val (.ref a3), .val (.ref a4), .val (.ref a5), .val (.ref a6), .val (.int (2 : Int32)), .val (.int (0 : Int32)), .unset, .unset, .unset] [(.ref a1)])) rfl rfl (hb hby d1_44)
  have F26 := (((F8.ext E3).other W14 (Ne.symm ne_a1_a4)).other W22 ne9)
  obtain ⟨cl25, A25, S25, Nl25, M25⟩ := id F26
  have hin25 : ¬ ((0 : Int32) < 0 ∨ cl25.slots.size ≤ ((0 : Int32)).toNatClampNeg) := AV.inb S25 Nl25 ⟨by decide, by decide⟩
  have hat25 : cl25.slots[((0 : Int32)).toNatClampNeg]? = some (.int (1 : Int32)) := AV.at S25 rfl
  obtain ⟨cl27, A27, S27, Nl27, M27⟩ := id V22
  have hin27 : ¬ ((2 : Int32) < 0 ∨ cl27.slots.size ≤ ((2 : Int32)).toNatClampNeg) := AV.inb S27 Nl27 ⟨by decide, by decide⟩
  have hat27 : cl27.slots[((2 : Int32)).toNatClampNeg]? = some (.int (0 : Int32)) := AV.at S27 rfl
  obtain ⟨cl28, A28, S28, Nl28, M28⟩ := id V22
  have hin28 : ¬ ((2 : Int32) < 0 ∨ cl28.slots.size ≤ ((2 : Int32)).toNatClampNeg) := AV.inb S28 Nl28 ⟨by decide, by decide⟩
  obtain ⟨T28, h28, X28, e28, W28, st28⟩ := stI X23 hx hZ e23 A28 (j := (2 : Int32)) hin28 (g := (mkF m 57 #[.val (.ref a1), .val (.int (2 : Int32)), .val (.ref a3), .val (.ref a4), .val (.ref a5), .val (.ref a6), .val (.int (2 : Int32)), .val (.int (0 : Int32)), .unset, .unset, .unset] [(.int (1 : Int32)), (.int (2 : Int32)), (.ref b3)])) rfl rfl (hb hby d1_57)
  have V28 : AV Z h28 b3 .int (3 : Int32) [(.int (0 : Int32)), (.int (1 : Int32)), (.int (1 : Int32))] := AV.set A28 S28 Nl28 M28 W28
  have K28 : Keep h0 h28 [a1] := K22.wr W28 (Or.inr sz_b3)
  have N28 := Fr.snoc X28 N22 g_b3
  have F30 := (F24.other W28 (Or.inl ne5))
  obtain ⟨T29, X29, e29, st29⟩ := getF X28 hx hZ hown (host := "") (Or.inl (hw _ (List.mem_of_getElem? (i := 15) rfl))) Via.refl e28 F30 (g := (mkF m 29 #[.val (.ref a1), .val (.int (2 : Int32)), .val (.ref a3), .val (.ref a4), .val (.ref a5), .val (.ref a6), .val (.int (2 : Int32)), .val (.int (1 : Int32)), .unset, .unset, .unset] [(.ref a1)])) rfl rfl (hb hby d1_29)
  have F32 := ((F19.other W22 ne7).other W28 ne7)
  obtain ⟨cl31, A31, S31, Nl31, M31⟩ := id F32
  have hin31 : ¬ ((1 : Int32) < 0 ∨ cl31.slots.size ≤ ((1 : Int32)).toNatClampNeg) := AV.inb S31 Nl31 ⟨by decide, by decide⟩
  have hat31 : cl31.slots[((1 : Int32)).toNatClampNeg]? = some (.int (1 : Int32)) := AV.at S31 rfl
  obtain ⟨cl33, A33, S33, Nl33, M33⟩ := id V28
  have hin33 : ¬ ((2 : Int32) < 0 ∨ cl33.slots.size ≤ ((2 : Int32)).toNatClampNeg) := AV.inb S33 Nl33 ⟨by decide, by decide⟩
  have hat33 : cl33.slots[((2 : Int32)).toNatClampNeg]? = some (.int (1 : Int32)) := AV.at S33 rfl
  obtain ⟨cl34, A34, S34, Nl34, M34⟩ := id V28
  have hin34 : ¬ ((2 : Int32) < 0 ∨ cl34.slots.size ≤ ((2 : Int32)).toNatClampNeg) := AV.inb S34 Nl34 ⟨by decide, by decide⟩
  obtain ⟨T34, h34, X34, e34, W34, st34⟩ := stI X29 hx hZ e29 A34 (j := (2 : Int32)) hin34 (g := (mkF m 42 #[.val (.ref a1), .val (.int (2 : Int32)), .val (.ref a3), .val (.ref a4), .val (.ref a5), .val (.ref a6), .val (.int (2 : Int32)), .val (.int (1 : Int32)), .unset, .unset, .unset] [(.int (2 : Int32)), (.int (2 : Int32)), (.ref b3)])) rfl rfl (hb hby d1_42)
  have V34 : AV Z h34 b3 .int (3 : Int32) [(.int (0 : Int32)), (.int (1 : Int32)), (.int (2 : Int32))] := AV.set A34 S34 Nl34 M34 W34
  have K34 : Keep h0 h34 [a1] := K28.wr W34 (Or.inr sz_b3)
  have N34 := Fr.snoc X34 N28 g_b3
  have F36 := (F30.other W34 (Or.inl ne5))
  obtain ⟨T35, X35, e35, st35⟩ := getF X34 hx hZ hown (host := "") (Or.inl (hw _ (List.mem_of_getElem? (i := 15) rfl))) Via.refl e34 F36 (g := (mkF m 44 #[.val (.ref a1), .val (.int (2 : Int32)), .val (.ref a3), .val (.ref a4), .val (.ref a5), .val (.ref a6), .val (.int (2 : Int32)), .val (.int (1 : Int32)), .unset, .unset, .unset] [(.ref a1)])) rfl rfl (hb hby d1_44)
  have F38 := ((F26.other W28 ne9).other W34 ne9)
  obtain ⟨cl37, A37, S37, Nl37, M37⟩ := id F38
  have hin37 : ¬ ((1 : Int32) < 0 ∨ cl37.slots.size ≤ ((1 : Int32)).toNatClampNeg) := AV.inb S37 Nl37 ⟨by decide, by decide⟩
  have hat37 : cl37.slots[((1 : Int32)).toNatClampNeg]? = some (.int (0 : Int32)) := AV.at S37 rfl
  obtain ⟨cl39, A39, S39, Nl39, M39⟩ := id V34
  have hin39 : ¬ ((1 : Int32) < 0 ∨ cl39.slots.size ≤ ((1 : Int32)).toNatClampNeg) := AV.inb S39 Nl39 ⟨by decide, by decide⟩
  have hat39 : cl39.slots[((1 : Int32)).toNatClampNeg]? = some (.int (1 : Int32)) := AV.at S39 rfl
  obtain ⟨cl40, A40, S40, Nl40, M40⟩ := id V34
  have hin40 : ¬ ((1 : Int32) < 0 ∨ cl40.slots.size ≤ ((1 : Int32)).toNatClampNeg) := AV.inb S40 Nl40 ⟨by decide, by decide⟩
  obtain ⟨T40, h40, X40, e40, W40, st40⟩ := stI X35 hx hZ e35 A40 (j := (1 : Int32)) hin40 (g := (mkF m 57 #[.val (.ref a1), .val (.int (2 : Int32)), .val (.ref a3), .val (.ref a4), .val (.ref a5), .val (.ref a6), .val (.int (2 : Int32)), .val (.int (1 : Int32)), .unset, .unset, .unset] [(.int (2 : Int32)), (.int (1 : Int32)), (.ref b3)])) rfl rfl (hb hby d1_57)
  have V40 : AV Z h40 b3 .int (3 : Int32) [(.int (0 : Int32)), (.int (2 : Int32)), (.int (2 : Int32))] := AV.set A40 S40 Nl40 M40 W40
  have K40 : Keep h0 h40 [a1] := K34.wr W40 (Or.inr sz_b3)
  have N40 := Fr.snoc X40 N34 g_b3
  have F42 := (F36.other W40 (Or.inl ne5))
  obtain ⟨T41, X41, e41, st41⟩ := getF X40 hx hZ hown (host := "") (Or.inl (hw _ (List.mem_of_getElem? (i := 15) rfl))) Via.refl e40 F42 (g := (mkF m 74 #[.val (.ref a1), .val (.int (2 : Int32)), .val (.ref a3), .val (.ref a4), .val (.ref a5), .val (.ref a6), .val (.int (2 : Int32)), .val (.int (0 : Int32)), .unset, .unset, .unset] [(.ref a1)])) rfl rfl (hb hby d1_74)
  obtain ⟨cl43, A43, S43, Nl43, M43⟩ := id V40
  have hin43 : ¬ ((1 : Int32) < 0 ∨ cl43.slots.size ≤ ((1 : Int32)).toNatClampNeg) := AV.inb S43 Nl43 ⟨by decide, by decide⟩
  have hat43 : cl43.slots[((1 : Int32)).toNatClampNeg]? = some (.int (2 : Int32)) := AV.at S43 rfl
  obtain ⟨T44, X44, e44, st44⟩ := getF X41 hx hZ hown (host := "") (Or.inl (hw _ (List.mem_of_getElem? (i := 15) rfl))) Via.refl e41 F42 (g := (mkF m 84 #[.val (.ref a1), .val (.int (2 : Int32)), .val (.ref a3), .val (.ref a4), .val (.ref a5), .val (.ref a6), .val (.int (2 : Int32)), .val (.int (0 : Int32)), .unset, .unset, .unset] [(.ref a1), (.int (2 : Int32)), (.int (1 : Int32)), (.ref b3)])) rfl rfl (hb hby d1_84)
  obtain ⟨cl45, A45, S45, Nl45, M45⟩ := id V40
  have hin45 : ¬ ((0 : Int32) < 0 ∨ cl45.slots.size ≤ ((0 : Int32)).toNatClampNeg) := AV.inb S45 Nl45 ⟨by decide, by decide⟩
  have hat45 : cl45.slots[((0 : Int32)).toNatClampNeg]? = some (.int (0 : Int32)) := AV.at S45 rfl
  obtain ⟨cl46, A46, S46, Nl46, M46⟩ := id V40
  have hin46 : ¬ ((1 : Int32) < 0 ∨ cl46.slots.size ≤ ((1 : Int32)).toNatClampNeg) := AV.inb S46 Nl46 ⟨by decide, by decide⟩
  obtain ⟨T46, h46, X46, e46, W46, st46⟩ := stI X44 hx hZ e44 A46 (j := (1 : Int32)) hin46 (g := (mkF m 91 #[.val (.ref a1), .val (.int (2 : Int32)), .val (.ref a3), .val (.ref a4), .val (.ref a5), .val (.ref a6), .val (.int (2 : Int32)), .val (.int (0 : Int32)), .unset, .unset, .unset] [(.int (2 : Int32)), (.int (1 : Int32)), (.ref b3)])) rfl rfl (hb hby d1_91)
  have V46 : AV Z h46 b3 .int (3 : Int32) [(.int (0 : Int32)), (.int (2 : Int32)), (.int (2 : Int32))] := AV.set A46 S46 Nl46 M46 W46
  have K46 : Keep h0 h46 [a1] := K40.wr W46 (Or.inr sz_b3)
  have N46 := Fr.snoc X46 N40 g_b3
  have F48 := (F42.other W46 (Or.inl ne5))
  obtain ⟨T47, X47, e47, st47⟩ := getF X46 hx hZ hown (host := "") (Or.inl (hw _ (List.mem_of_getElem? (i := 15) rfl))) Via.refl e46 F48 (g := (mkF m 74 #[.val (.ref a1), .val (.int (2 : Int32)), .val (.ref a3), .val (.ref a4), .val (.ref a5), .val (.ref a6), .val (.int (2 : Int32)), .val (.int (1 : Int32)), .unset, .unset, .unset] [(.ref a1)])) rfl rfl (hb hby d1_74)
  obtain ⟨cl49, A49, S49, Nl49, M49⟩ := id V46
  have hin49 : ¬ ((2 : Int32) < 0 ∨ cl49.slots.size ≤ ((2 : Int32)).toNatClampNeg) := AV.inb S49 Nl49 ⟨by decide, by decide⟩
  have hat49 : cl49.slots[((2 : Int32)).toNatClampNeg]? = some (.int (2 : Int32)) := AV.at S49 rfl
  obtain ⟨T50, X50, e50, st50⟩ := getF X47 hx hZ hown (host := "") (Or.inl (hw _ (List.mem_of_getElem? (i := 15) rfl))) Via.refl e47 F48 (g := (mkF m 84 #[.val (.ref a1), .val (.int (2 : Int32)), .val (.ref a3), .val (.ref a4), .val (.ref a5), .val (.ref a6), .val (.int (2 : Int32)), .val (.int (1 : Int32)), .unset, .unset, .unset] [(.ref a1), (.int (2 : Int32)), (.int (2 : Int32)), (.ref b3)])) rfl rfl (hb hby d1_84)
  obtain ⟨cl51, A51, S51, Nl51, M51⟩ := id V46
  have hin51 : ¬ ((1 : Int32) < 0 ∨ cl51.slots.size ≤ ((1 : Int32)).toNatClampNeg) := AV.inb S51 Nl51 ⟨by decide, by decide⟩
  have hat51 : cl51.slots[((1 : Int32)).toNatClampNeg]? = some (.int (2 : Int32)) := AV.at S51 rfl
  obtain ⟨cl52, A52, S52, Nl52, M52⟩ := id V46
  have hin52 : ¬ ((2 : Int32) < 0 ∨ cl52.slots.size ≤ ((2 : Int32)).toNatClampNeg) := AV.inb S52 Nl52 ⟨by decide, by decide⟩
  obtain ⟨T52, h52, X52, e52, W52, st52⟩ := stI X50 hx hZ e50 A52 (j := (2 : Int32)) hin52 (g := (mkF m 91 #[.val (.ref a1), .val (.int (2 : Int32)), .val (.ref a3), .val (.ref a4), .val (.ref a5), .val (.ref a6), .val (.int (2 : Int32)), .val (.int (1 : Int32)), .unset, .unset, .unset] [(.int (4 : Int32)), (.int (2 : Int32)), (.ref b3)])) rfl rfl (hb hby d1_91)
  have V52 : AV Z h52 b3 .int (3 : Int32) [(.int (0 : Int32)), (.int (2 : Int32)), (.int (4 : Int32))] := AV.set A52 S52 Nl52 M52 W52
  have K52 : Keep h0 h52 [a1] := K46.wr W52 (Or.inr sz_b3)
  have N52 := Fr.snoc X52 N46 g_b3
  obtain ⟨T53, h53, k53, X53, e53, E53, A53, st53⟩ := newP X52 hx hZ (hw _ (List.mem_of_getElem? (i := 0) rfl)) e52 (g := (mkF m 103 #[.val (.ref a1), .val (.int (2 : Int32)), .val (.ref a3), .val (.ref a4), .val (.ref a5), .val (.ref a6), .val (.int (2 : Int32)), .val (.int (2 : Int32)), .unset, .unset, .unset] [(.int (4 : Int32)), (.ref a1)])) rfl (hb hby d1_103) rfl (by decide) (cap := 4) (by decide) (by decide) (by decide) (by decide)
  obtain ⟨b53, g53⟩ : ∃ z, z = h52.size := ⟨_, rfl⟩
  rw [← g53] at A53 st53
  have F54 := (((((((F15.wr W14).wr W22).wr W28).wr W34).wr W40).wr W46).wr W52)
  have ne55 : a1 ≠ b53 := Nat.ne_of_lt (Nat.lt_of_lt_of_le F54.lt (Nat.le_of_eq g53.symm))
  have F56 := ((((F32.other W34 ne7).other W40 ne7).other W46 ne7).other W52 ne7)
  have ne57 : a3 ≠ b53 := Nat.ne_of_lt (Nat.lt_of_lt_of_le F56.lt (Nat.le_of_eq g53.symm))
  have F58 := (((F38.other W40 ne9).other W46 ne9).other W52 ne9)
  have ne59 : a4 ≠ b53 := Nat.ne_of_lt (Nat.lt_of_lt_of_le F58.lt (Nat.le_of_eq g53.symm))
  have F60 := ((((((((F10.ext E3).other W14 (Ne.symm ne_a1_a5)).other W22 ne11).other W28 ne11).other W34 ne11).other W40 ne11).other W46 ne11).other W52 ne11)
  have ne61 : a5 ≠ b53 := Nat.ne_of_lt (Nat.lt_of_lt_of_le F60.lt (Nat.le_of_eq g53.symm))
  have F62 := ((((((((F12.ext E3).other W14 (Ne.symm ne_a1_a6)).other W22 ne13).other W28 ne13).other W34 ne13).other W40 ne13).other W46 ne13).other W52 ne13)
  have ne63 : a6 ≠ b53 := Nat.ne_of_lt (Nat.lt_of_lt_of_le F62.lt (Nat.le_of_eq g53.symm))
  have ne64 : b3 ≠ b53 := Nat.ne_of_lt (Nat.lt_of_lt_of_le V52.lt (Nat.le_of_eq g53.symm))
  have g_b53 : n0 ≤ b53 := Nat.le_trans (Nat.le_trans Z0 K52.1) (Nat.le_of_eq g53.symm)
  have sz_b53 : h0.size ≤ b53 := Nat.le_trans K52.1 (Nat.le_of_eq g53.symm)
  have K53 : Keep h0 h53 [a1] := K52.ext E53
  have V_b53 : AV Z h53 b53 .int (4 : Int32) [(.int (0 : Int32)), (.int (0 : Int32)), (.int (0 : Int32)), (.int (0 : Int32))] := AV.new A53 (by decide)
  have F66 := (F54.ext E53)
  have F67 := ((((((((((F_a1_head.other W2 (Or.inr (slot_ne (Or.inr (hw _ (List.mem_of_getElem? (i := 18) rfl))) (Or.inr (hw _ (List.mem_of_getElem? (i := 14) rfl))) (by decide) (t := (.array .int)) (t' := .int) (by decide) (by decide)))).ext E3).other W14 (Or.inr (slot_ne (Or.inr (hw _ (List.mem_of_getElem? (i := 18) rfl))) (Or.inr (hw _ (List.mem_of_getElem? (i := 16) rfl))) (by decide) (t := (.array .int)) (t' := (.array .int)) (by decide) (by decide)))).other W22 (Or.inl ne5)).other W28 (Or.inl ne5)).other W34 (Or.inl ne5)).other W40 (Or.inl ne5)).other W46 (Or.inl ne5)).other W52 (Or.inl ne5)).ext E53)
  obtain ⟨T65, h65, X65, e65, W65, st65⟩ := putF X53 hx hZ hown (host := "") (Or.inl (hw _ (List.mem_of_getElem? (i := 17) rfl))) Via.refl e53 F67 F66 (Or.inr ⟨(hw _ (List.mem_of_getElem? (i := 18) rfl)), rfl, hnm⟩) (hw _ (List.mem_of_getElem? (i := 5) rfl)) (ty := (.array .int)) (by decide) rfl rfl (g := (mkF m 105 #[.val (.ref a1), .val (.int (2 : Int32)), .val (.ref a3), .val (.ref a4), .val (.ref a5), .val (.ref a6), .val (.int (2 : Int32)), .val (.int (2 : Int32)), .unset, .unset, .unset] [(.ref b53), (.ref a1)])) rfl rfl (hb hby d1_105)
  have Fw65 := F67.same W65
  have K65 : Keep h0 h65 [a1] := K53.wr W65 (Or.inl (List.mem_of_getElem? (i := 0) rfl))
  have N65 := Fr.snoc X65 N52 g_a1
  obtain ⟨T68, h68, k68, X68, e68, E68, A68, st68⟩ := newP X65 hx hZ (hw _ (List.mem_of_getElem? (i := 0) rfl)) e65 (g := (mkF m 113 #[.val (.ref a1), .val (.int (2 : Int32)), .val (.ref a3), .val (.ref a4), .val (.ref a5), .val (.ref a6), .val (.int (2 : Int32)), .val (.int (2 : Int32)), .unset, .unset, .unset] [(.int (4 : Int32)), (.ref a1)])) rfl (hb hby d1_113) rfl (by decide) (cap := 4) (by decide) (by decide) (by decide) (by decide)
  obtain ⟨b68, g68⟩ : ∃ z, z = h65.size := ⟨_, rfl⟩
  rw [← g68] at A68 st68
  have F69 := (F66.wr W65)
  have ne70 : a1 ≠ b68 := Nat.ne_of_lt (Nat.lt_of_lt_of_le F69.lt (Nat.le_of_eq g68.symm))
  have F71 := ((F56.ext E53).other W65 (Ne.symm ne_a1_a3))
  have ne72 : a3 ≠ b68 := Nat.ne_of_lt (Nat.lt_of_lt_of_le F71.lt (Nat.le_of_eq g68.symm))
  have F73 := ((F58.ext E53).other W65 (Ne.symm ne_a1_a4))
  have ne74 : a4 ≠ b68 := Nat.ne_of_lt (Nat.lt_of_lt_of_le F73.lt (Nat.le_of_eq g68.symm))
  have F75 := ((F60.ext E53).other W65 (Ne.symm ne_a1_a5))
  have ne76 : a5 ≠ b68 := Nat.ne_of_lt (Nat.lt_of_lt_of_le F75.lt (Nat.le_of_eq g68.symm))
  have F77 := ((F62.ext E53).other W65 (Ne.symm ne_a1_a6))
  have ne78 : a6 ≠ b68 := Nat.ne_of_lt (Nat.lt_of_lt_of_le F77.lt (Nat.le_of_eq g68.symm))
  have F79 := ((V52.ext E53).other W65 (Ne.symm ne5))
  have ne80 : b3 ≠ b68 := Nat.ne_of_lt (Nat.lt_of_lt_of_le F79.lt (Nat.le_of_eq g68.symm))
  have F81 := (V_b53.other W65 (Ne.symm ne55))
  have ne82 : b53 ≠ b68 := Nat.ne_of_lt (Nat.lt_of_lt_of_le F81.lt (Nat.le_of_eq g68.symm))
  have g_b68 : n0 ≤ b68 := Nat.le_trans (Nat.le_trans Z0 K65.1) (Nat.le_of_eq g68.symm)
  have sz_b68 : h0.size ≤ b68 := Nat.le_trans K65.1 (Nat.le_of_eq g68.symm)
  have K68 : Keep h0 h68 [a1] := K65.ext E68
  have V_b68 : AV Z h68 b68 .int (4 : Int32) [(.int (0 : Int32)), (.int (0 : Int32)), (.int (0 : Int32)), (.int (0 : Int32))] := AV.new A68 (by decide)
  have F84 := (F69.ext E68)
  have F85 := ((((((((((((F_a1_mate.other W2 (Or.inr (slot_ne (Or.inr (hw _ (List.mem_of_getElem? (i := 20) rfl))) (Or.inr (hw _ (List.mem_of_getElem? (i := 14) rfl))) (by decide) (t := (.array .int)) (t' := .int) (by decide) (by decide)))).ext E3).other W14 (Or.inr (slot_ne (Or.inr (hw _ (List.mem_of_getElem? (i := 20) rfl))) (Or.inr (hw _ (List.mem_of_getElem? (i := 16) rfl))) (by decide) (t := (.array .int)) (t' := (.array .int)) (by decide) (by decide)))).other W22 (Or.inl ne5)).other W28 (Or.inl ne5)).other W34 (Or.inl ne5)).other W40 (Or.inl ne5)).other W46 (Or.inl ne5)).other W52 (Or.inl ne5)).ext E53).other W65 (Or.inr (slot_ne (Or.inr (hw _ (List.mem_of_getElem? (i := 20) rfl))) (Or.inr (hw _ (List.mem_of_getElem? (i := 18) rfl))) (by decide) (t := (.array .int)) (t' := (.array .int)) (by decide) (by decide)))).ext E68)
  obtain ⟨T83, h83, X83, e83, W83, st83⟩ := putF X68 hx hZ hown (host := "") (Or.inl (hw _ (List.mem_of_getElem? (i := 19) rfl))) Via.refl e68 F85 F84 (Or.inr ⟨(hw _ (List.mem_of_getElem? (i := 20) rfl)), rfl, hnm⟩) (hw _ (List.mem_of_getElem? (i := 5) rfl)) (ty := (.array .int)) (by decide) rfl rfl (g := (mkF m 115 #[.val (.ref a1), .val (.int (2 : Int32)), .val (.ref a3), .val (.ref a4), .val (.ref a5), .val (.ref a6), .val (.int (2 : Int32)), .val (.int (2 : Int32)), .unset, .unset, .unset] [(.ref b68), (.ref a1)])) rfl rfl (hb hby d1_115)
  have Fw83 := F85.same W83
  have K83 : Keep h0 h83 [a1] := K68.wr W83 (Or.inl (List.mem_of_getElem? (i := 0) rfl))
  have N83 := Fr.snoc X83 N65 g_a1
  obtain ⟨T86, h86, k86, X86, e86, E86, A86, st86⟩ := newP X83 hx hZ (hw _ (List.mem_of_getElem? (i := 0) rfl)) e83 (g := (mkF m 123 #[.val (.ref a1), .val (.int (2 : Int32)), .val (.ref a3), .val (.ref a4), .val (.ref a5), .val (.ref a6), .val (.int (2 : Int32)), .val (.int (2 : Int32)), .unset, .unset, .unset] [(.int (4 : Int32)), (.ref a1)])) rfl (hb hby d1_123) rfl (by decide) (cap := 4) (by decide) (by decide) (by decide) (by decide)
  obtain ⟨b86, g86⟩ : ∃ z, z = h83.size := ⟨_, rfl⟩
  rw [← g86] at A86 st86
  have F87 := (F84.wr W83)
  have ne88 : a1 ≠ b86 := Nat.ne_of_lt (Nat.lt_of_lt_of_le F87.lt (Nat.le_of_eq g86.symm))
  have F89 := ((F71.ext E68).other W83 (Ne.symm ne_a1_a3))
  have ne90 : a3 ≠ b86 := Nat.ne_of_lt (Nat.lt_of_lt_of_le F89.lt (Nat.le_of_eq g86.symm))
  have F91 := ((F73.ext E68).other W83 (Ne.symm ne_a1_a4))
  have ne92 : a4 ≠ b86 := Nat.ne_of_lt (Nat.lt_of_lt_of_le F91.lt (Nat.le_of_eq g86.symm))
  have F93 := ((F75.ext E68).other W83 (Ne.symm ne_a1_a5))
  have ne94 : a5 ≠ b86 := Nat.ne_of_lt (Nat.lt_of_lt_of_le F93.lt (Nat.le_of_eq g86.symm))
  have F95 := ((F77.ext E68).other W83 (Ne.symm ne_a1_a6))
  have ne96 : a6 ≠ b86 := Nat.ne_of_lt (Nat.lt_of_lt_of_le F95.lt (Nat.le_of_eq g86.symm))
  have F97 := ((F79.ext E68).other W83 (Ne.symm ne5))
  have ne98 : b3 ≠ b86 := Nat.ne_of_lt (Nat.lt_of_lt_of_le F97.lt (Nat.le_of_eq g86.symm))
  have F99 := ((F81.ext E68).other W83 (Ne.symm ne55))
  have ne100 : b53 ≠ b86 := Nat.ne_of_lt (Nat.lt_of_lt_of_le F99.lt (Nat.le_of_eq g86.symm))
  have F101 := (V_b68.other W83 (Ne.symm ne70))
  have ne102 : b68 ≠ b86 := Nat.ne_of_lt (Nat.lt_of_lt_of_le F101.lt (Nat.le_of_eq g86.symm))
  have g_b86 : n0 ≤ b86 := Nat.le_trans (Nat.le_trans Z0 K83.1) (Nat.le_of_eq g86.symm)
  have sz_b86 : h0.size ≤ b86 := Nat.le_trans K83.1 (Nat.le_of_eq g86.symm)
  have K86 : Keep h0 h86 [a1] := K83.ext E86
  have V_b86 : AV Z h86 b86 .int (4 : Int32) [(.int (0 : Int32)), (.int (0 : Int32)), (.int (0 : Int32)), (.int (0 : Int32))] := AV.new A86 (by decide)
  have F104 := (F87.ext E86)
  have F105 := ((((((((((((((F_a1_residual.other W2 (Or.inr (slot_ne (Or.inr (hw _ (List.mem_of_getElem? (i := 22) rfl))) (Or.inr (hw _ (List.mem_of_getElem? (i := 14) rfl))) (by decide) (t := (.array .int)) (t' := .int) (by decide) (by decide)))).ext E3).other W14 (Or.inr (slot_ne (Or.inr (hw _ (List.mem_of_getElem? (i := 22) rfl))) (Or.inr (hw _ (List.mem_of_getElem? (i := 16) rfl))) (by decide) (t := (.array .int)) (t' := (.array .int)) (by decide) (by decide)))).other W22 (Or.inl ne5)).other W28 (Or.inl ne5)).other W34 (Or.inl ne5)).other W40 (Or.inl ne5)).other W46 (Or.inl ne5)).other W52 (Or.inl ne5)).ext E53).other W65 (Or.inr (slot_ne (Or.inr (hw _ (List.mem_of_getElem? (i := 22) rfl))) (Or.inr (hw _ (List.mem_of_getElem? (i := 18) rfl))) (by decide) (t := (.array .int)) (t' := (.array .int)) (by decide) (by decide)))).ext E68).other W83 (Or.inr (slot_ne (Or.inr (hw _ (List.mem_of_getElem? (i := 22) rfl))) (Or.inr (hw _ (List.mem_of_getElem? (i := 20) rfl))) (by decide) (t := (.array .int)) (t' := (.array .int)) (by decide) (by decide)))).ext E86)
  obtain ⟨T103, h103, X103, e103, W103, st103⟩ := putF X86 hx hZ hown (host := "") (Or.inl (hw _ (List.mem_of_getElem? (i := 21) rfl))) Via.refl e86 F105 F104 (Or.inr ⟨(hw _ (List.mem_of_getElem? (i := 22) rfl)), rfl, hnm⟩) (hw _ (List.mem_of_getElem? (i := 5) rfl)) (ty := (.array .int)) (by decide) rfl rfl (g := (mkF m 125 #[.val (.ref a1), .val (.int (2 : Int32)), .val (.ref a3), .val (.ref a4), .val (.ref a5), .val (.ref a6), .val (.int (2 : Int32)), .val (.int (2 : Int32)), .unset, .unset, .unset] [(.ref b86), (.ref a1)])) rfl rfl (hb hby d1_125)
  have Fw103 := F105.same W103
  have K103 : Keep h0 h103 [a1] := K86.wr W103 (Or.inl (List.mem_of_getElem? (i := 0) rfl))
  have N103 := Fr.snoc X103 N83 g_a1
  obtain ⟨T106, h106, k106, X106, e106, E106, A106, st106⟩ := newP X103 hx hZ (hw _ (List.mem_of_getElem? (i := 1) rfl)) e103 (g := (mkF m 133 #[.val (.ref a1), .val (.int (2 : Int32)), .val (.ref a3), .val (.ref a4), .val (.ref a5), .val (.ref a6), .val (.int (2 : Int32)), .val (.int (2 : Int32)), .unset, .unset, .unset] [(.int (4 : Int32)), (.ref a1)])) rfl (hb hby d1_133) rfl (by decide) (cap := 4) (by decide) (by decide) (by decide) (by decide)
  obtain ⟨b106, g106⟩ : ∃ z, z = h103.size := ⟨_, rfl⟩
  rw [← g106] at A106 st106
  have F107 := (F104.wr W103)
  have ne108 : a1 ≠ b106 := Nat.ne_of_lt (Nat.lt_of_lt_of_le F107.lt (Nat.le_of_eq g106.symm))
  have F109 := ((F89.ext E86).other W103 (Ne.symm ne_a1_a3))
  have ne110 : a3 ≠ b106 := Nat.ne_of_lt (Nat.lt_of_lt_of_le F109.lt (Nat.le_of_eq g106.symm))
  have F111 := ((F91.ext E86).other W103 (Ne.symm ne_a1_a4))
  have ne112 : a4 ≠ b106 := Nat.ne_of_lt (Nat.lt_of_lt_of_le F111.lt (Nat.le_of_eq g106.symm))
  have F113 := ((F93.ext E86).other W103 (Ne.symm ne_a1_a5))
  have ne114 : a5 ≠ b106 := Nat.ne_of_lt (Nat.lt_of_lt_of_le F113.lt (Nat.le_of_eq g106.symm))
  have F115 := ((F95.ext E86).other W103 (Ne.symm ne_a1_a6))
  have ne116 : a6 ≠ b106 := Nat.ne_of_lt (Nat.lt_of_lt_of_le F115.lt (Nat.le_of_eq g106.symm))
  have F117 := ((F97.ext E86).other W103 (Ne.symm ne5))
  have ne118 : b3 ≠ b106 := Nat.ne_of_lt (Nat.lt_of_lt_of_le F117.lt (Nat.le_of_eq g106.symm))
  have F119 := ((F99.ext E86).other W103 (Ne.symm ne55))
  have ne120 : b53 ≠ b106 := Nat.ne_of_lt (Nat.lt_of_lt_of_le F119.lt (Nat.le_of_eq g106.symm))
  have F121 := ((F101.ext E86).other W103 (Ne.symm ne70))
  have ne122 : b68 ≠ b106 := Nat.ne_of_lt (Nat.lt_of_lt_of_le F121.lt (Nat.le_of_eq g106.symm))
  have F123 := (V_b86.other W103 (Ne.symm ne88))
  have ne124 : b86 ≠ b106 := Nat.ne_of_lt (Nat.lt_of_lt_of_le F123.lt (Nat.le_of_eq g106.symm))
  have g_b106 : n0 ≤ b106 := Nat.le_trans (Nat.le_trans Z0 K103.1) (Nat.le_of_eq g106.symm)
  have sz_b106 : h0.size ≤ b106 := Nat.le_trans K103.1 (Nat.le_of_eq g106.symm)
  have K106 : Keep h0 h106 [a1] := K103.ext E106
  have V_b106 : AV Z h106 b106 .long (4 : Int32) [(.long (0 : Int64)), (.long (0 : Int64)), (.long (0 : Int64)), (.long (0 : Int64))] := AV.new A106 (by decide)
  have F126 := (F107.ext E106)
  have F127 := ((((((((((((((((F_a1_cost.other W2 (Or.inr (slot_ne (Or.inr (hw _ (List.mem_of_getElem? (i := 24) rfl))) (Or.inr (hw _ (List.mem_of_getElem? (i := 14) rfl))) (by decide) (t := (.array .long)) (t' := .int) (by decide) (by decide)))).ext E3).other W14 (Or.inr (slot_ne (Or.inr (hw _ (List.mem_of_getElem? (i := 24) rfl))) (Or.inr (hw _ (List.mem_of_getElem? (i := 16) rfl))) (by decide) (t := (.array .long)) (t' := (.array .int)) (by decide) (by decide)))).other W22 (Or.inl ne5)).other W28 (Or.inl ne5)).other W34 (Or.inl ne5)).other W40 (Or.inl ne5)).other W46 (Or.inl ne5)).other W52 (Or.inl ne5)).ext E53).other W65 (Or.inr (slot_ne (Or.inr (hw _ (List.mem_of_getElem? (i := 24) rfl))) (Or.inr (hw _ (List.mem_of_getElem? (i := 18) rfl))) (by decide) (t := (.array .long)) (t' := (.array .int)) (by decide) (by decide)))).ext E68).other W83 (Or.inr (slot_ne (Or.inr (hw _ (List.mem_of_getElem? (i := 24) rfl))) (Or.inr (hw _ (List.mem_of_getElem? (i := 20) rfl))) (by decide) (t := (.array .long)) (t' := (.array .int)) (by decide) (by decide)))).ext E86).other W103 (Or.inr (slot_ne (Or.inr (hw _ (List.mem_of_getElem? (i := 24) rfl))) (Or.inr (hw _ (List.mem_of_getElem? (i := 22) rfl))) (by decide) (t := (.array .long)) (t' := (.array .int)) (by decide) (by decide)))).ext E106)
  obtain ⟨T125, h125, X125, e125, W125, st125⟩ := putF X106 hx hZ hown (host := "") (Or.inl (hw _ (List.mem_of_getElem? (i := 23) rfl))) Via.refl e106 F127 F126 (Or.inr ⟨(hw _ (List.mem_of_getElem? (i := 24) rfl)), rfl, hnm⟩) (hw _ (List.mem_of_getElem? (i := 5) rfl)) (ty := (.array .long)) (by decide) rfl rfl (g := (mkF m 135 #[.val (.ref a1), .val (.int (2 : Int32)), .val (.ref a3), .val (.ref a4), .val (.ref a5), .val (.ref a6), .val (.int (2 : Int32)), .val (.int (2 : Int32)), .unset, .unset, .unset] [(.ref b106), (.ref a1)])) rfl rfl (hb hby d1_135)
  have Fw125 := F127.same W125
  have K125 : Keep h0 h125 [a1] := K106.wr W125 (Or.inl (List.mem_of_getElem? (i := 0) rfl))
  have N125 := Fr.snoc X125 N103 g_a1
  obtain ⟨T128, h128, k128, X128, e128, E128, A128, st128⟩ := newP X125 hx hZ (hw _ (List.mem_of_getElem? (i := 0) rfl)) e125 (g := (mkF m 141 #[.val (.ref a1), .val (.int (2 : Int32)), .val (.ref a3), .val (.ref a4), .val (.ref a5), .val (.ref a6), .val (.int (2 : Int32)), .val (.int (2 : Int32)), .unset, .unset, .unset] [(.int (2 : Int32)), (.ref a1)])) rfl (hb hby d1_141) rfl (by decide) (cap := 2) (by decide) (by decide) (by decide) (by decide)
  obtain ⟨b128, g128⟩ : ∃ z, z = h125.size := ⟨_, rfl⟩
  rw [← g128] at A128 st128
  have F129 := (F126.wr W125)
  have ne130 : a1 ≠ b128 := Nat.ne_of_lt (Nat.lt_of_lt_of_le F129.lt (Nat.le_of_eq g128.symm))
  have F131 := ((F109.ext E106).other W125 (Ne.symm ne_a1_a3))
  have ne132 : a3 ≠ b128 := Nat.ne_of_lt (Nat.lt_of_lt_of_le F131.lt (Nat.le_of_eq g128.symm))
  have F133 := ((F111.ext E106).other W125 (Ne.symm ne_a1_a4))
  have ne134 : a4 ≠ b128 := Nat.ne_of_lt (Nat.lt_of_lt_of_le F133.lt (Nat.le_of_eq g128.symm))
  have F135 := ((F113.ext E106).other W125 (Ne.symm ne_a1_a5))
  have ne136 : a5 ≠ b128 := Nat.ne_of_lt (Nat.lt_of_lt_of_le F135.lt (Nat.le_of_eq g128.symm))
  have F137 := ((F115.ext E106).other W125 (Ne.symm ne_a1_a6))
  have ne138 : a6 ≠ b128 := Nat.ne_of_lt (Nat.lt_of_lt_of_le F137.lt (Nat.le_of_eq g128.symm))
  have F139 := ((F117.ext E106).other W125 (Ne.symm ne5))
  have ne140 : b3 ≠ b128 := Nat.ne_of_lt (Nat.lt_of_lt_of_le F139.lt (Nat.le_of_eq g128.symm))
  have F141 := ((F119.ext E106).other W125 (Ne.symm ne55))
  have ne142 : b53 ≠ b128 := Nat.ne_of_lt (Nat.lt_of_lt_of_le F141.lt (Nat.le_of_eq g128.symm))
  have F143 := ((F121.ext E106).other W125 (Ne.symm ne70))
  have ne144 : b68 ≠ b128 := Nat.ne_of_lt (Nat.lt_of_lt_of_le F143.lt (Nat.le_of_eq g128.symm))
  have F145 := ((F123.ext E106).other W125 (Ne.symm ne88))
  have ne146 : b86 ≠ b128 := Nat.ne_of_lt (Nat.lt_of_lt_of_le F145.lt (Nat.le_of_eq g128.symm))
  have F147 := (V_b106.other W125 (Ne.symm ne108))
  have ne148 : b106 ≠ b128 := Nat.ne_of_lt (Nat.lt_of_lt_of_le F147.lt (Nat.le_of_eq g128.symm))
  have g_b128 : n0 ≤ b128 := Nat.le_trans (Nat.le_trans Z0 K125.1) (Nat.le_of_eq g128.symm)
  have sz_b128 : h0.size ≤ b128 := Nat.le_trans K125.1 (Nat.le_of_eq g128.symm)
  have K128 : Keep h0 h128 [a1] := K125.ext E128
  have V_b128 : AV Z h128 b128 .int (2 : Int32) [(.int (0 : Int32)), (.int (0 : Int32))] := AV.new A128 (by decide)
  have F150 := (F129.ext E128)
  have F151 := ((((((((((((((((((F_a1_edgeArc.other W2 (Or.inr (slot_ne (Or.inr (hw _ (List.mem_of_getElem? (i := 26) rfl))) (Or.inr (hw _ (List.mem_of_getElem? (i := 14) rfl))) (by decide) (t := (.array .int)) (t' := .int) (by decide) (by decide)))).ext E3).other W14 (Or.inr (slot_ne (Or.inr (hw _ (List.mem_of_getElem? (i := 26) rfl))) (Or.inr (hw _ (List.mem_of_getElem? (i := 16) rfl))) (by decide) (t := (.array .int)) (t' := (.array .int)) (by decide) (by decide)))).other W22 (Or.inl ne5)).other W28 (Or.inl ne5)).other W34 (Or.inl ne5)).other W40 (Or.inl ne5)).other W46 (Or.inl ne5)).other W52 (Or.inl ne5)).ext E53).other W65 (Or.inr (slot_ne (Or.inr (hw _ (List.mem_of_getElem? (i := 26) rfl))) (Or.inr (hw _ (List.mem_of_getElem? (i := 18) rfl))) (by decide) (t := (.array .int)) (t' := (.array .int)) (by decide) (by decide)))).ext E68).other W83 (Or.inr (slot_ne (Or.inr (hw _ (List.mem_of_getElem? (i := 26) rfl))) (Or.inr (hw _ (List.mem_of_getElem? (i := 20) rfl))) (by decide) (t := (.array .int)) (t' := (.array .int)) (by decide) (by decide)))).ext E86).other W103 (Or.inr (slot_ne (Or.inr (hw _ (List.mem_of_getElem? (i := 26) rfl))) (Or.inr (hw _ (List.mem_of_getElem? (i := 22) rfl))) (by decide) (t := (.array .int)) (t' := (.array .int)) (by decide) (by decide)))).ext E106).other W125 (Or.inr (slot_ne (Or.inr (hw _ (List.mem_of_getElem? (i := 26) rfl))) (Or.inr (hw _ (List.mem_of_getElem? (i := 24) rfl))) (by decide) (t := (.array .int)) (t' := (.array .long)) (by decide) (by decide)))).ext E128)
  obtain ⟨T149, h149, X149, e149, W149, st149⟩ := putF X128 hx hZ hown (host := "") (Or.inl (hw _ (List.mem_of_getElem? (i := 25) rfl))) Via.refl e128 F151 F150 (Or.inr ⟨(hw _ (List.mem_of_getElem? (i := 26) rfl)), rfl, hnm⟩) (hw _ (List.mem_of_getElem? (i := 5) rfl)) (ty := (.array .int)) (by decide) rfl rfl (g := (mkF m 143 #[.val (.ref a1), .val (.int (2 : Int32)), .val (.ref a3), .val (.ref a4), .val (.ref a5), .val (.ref a6), .val (.int (2 : Int32)), .val (.int (2 : Int32)), .unset, .unset, .unset] [(.ref b128), (.ref a1)])) rfl rfl (hb hby d1_143)
  have Fw149 := F151.same W149
  have K149 : Keep h0 h149 [a1] := K128.wr W149 (Or.inl (List.mem_of_getElem? (i := 0) rfl))
  have N149 := Fr.snoc X149 N125 g_a1
  obtain ⟨T152, h152, k152, X152, e152, E152, A152, st152⟩ := newP X149 hx hZ (hw _ (List.mem_of_getElem? (i := 0) rfl)) e149 (g := (mkF m 147 #[.val (.ref a1), .val (.int (2 : Int32)), .val (.ref a3), .val (.ref a4), .val (.ref a5), .val (.ref a6), .val (.int (2 : Int32)), .val (.int (2 : Int32)), .unset, .unset, .unset] [(.int (2 : Int32))])) rfl (hb hby d1_147) rfl (by decide) (cap := 2) (by decide) (by decide) (by decide) (by decide)
  obtain ⟨b152, g152⟩ : ∃ z, z = h149.size := ⟨_, rfl⟩
  rw [← g152] at A152 st152
  have F153 := (F150.wr W149)
  have ne154 : a1 ≠ b152 := Nat.ne_of_lt (Nat.lt_of_lt_of_le F153.lt (Nat.le_of_eq g152.symm))
  have F155 := ((F131.ext E128).other W149 (Ne.symm ne_a1_a3))
  have ne156 : a3 ≠ b152 := Nat.ne_of_lt (Nat.lt_of_lt_of_le F155.lt (Nat.le_of_eq g152.symm))
  have F157 := ((F133.ext E128).other W149 (Ne.symm ne_a1_a4))
  have ne158 : a4 ≠ b152 := Nat.ne_of_lt (Nat.lt_of_lt_of_le F157.lt (Nat.le_of_eq g152.symm))
  have F159 := ((F135.ext E128).other W149 (Ne.symm ne_a1_a5))
  have ne160 : a5 ≠ b152 := Nat.ne_of_lt (Nat.lt_of_lt_of_le F159.lt (Nat.le_of_eq g152.symm))
  have F161 := ((F137.ext E128).other W149 (Ne.symm ne_a1_a6))
  have ne162 : a6 ≠ b152 := Nat.ne_of_lt (Nat.lt_of_lt_of_le F161.lt (Nat.le_of_eq g152.symm))
  have F163 := ((F139.ext E128).other W149 (Ne.symm ne5))
  have ne164 : b3 ≠ b152 := Nat.ne_of_lt (Nat.lt_of_lt_of_le F163.lt (Nat.le_of_eq g152.symm))
  have F165 := ((F141.ext E128).other W149 (Ne.symm ne55))
  have ne166 : b53 ≠ b152 := Nat.ne_of_lt (Nat.lt_of_lt_of_le F165.lt (Nat.le_of_eq g152.symm))
  have F167 := ((F143.ext E128).other W149 (Ne.symm ne70))
  have ne168 : b68 ≠ b152 := Nat.ne_of_lt (Nat.lt_of_lt_of_le F167.lt (Nat.le_of_eq g152.symm))
  have F169 := ((F145.ext E128).other W149 (Ne.symm ne88))
  have ne170 : b86 ≠ b152 := Nat.ne_of_lt (Nat.lt_of_lt_of_le F169.lt (Nat.le_of_eq g152.symm))
  have F171 := ((F147.ext E128).other W149 (Ne.symm ne108))
  have ne172 : b106 ≠ b152 := Nat.ne_of_lt (Nat.lt_of_lt_of_le F171.lt (Nat.le_of_eq g152.symm))
  have F173 := (V_b128.other W149 (Ne.symm ne130))
  have ne174 : b128 ≠ b152 := Nat.ne_of_lt (Nat.lt_of_lt_of_le F173.lt (Nat.le_of_eq g152.symm))
  have g_b152 : n0 ≤ b152 := Nat.le_trans (Nat.le_trans Z0 K149.1) (Nat.le_of_eq g152.symm)
  have sz_b152 : h0.size ≤ b152 := Nat.le_trans K149.1 (Nat.le_of_eq g152.symm)
  have K152 : Keep h0 h152 [a1] := K149.ext E152
  have V_b152 : AV Z h152 b152 .int (2 : Int32) [(.int (0 : Int32)), (.int (0 : Int32))] := AV.new A152 (by decide)
  have F176 := ((((((((((((F48.other W52 (Or.inl ne5)).ext E53).other W65 (Or.inr (slot_ne (Or.inr (hw _ (List.mem_of_getElem? (i := 16) rfl))) (Or.inr (hw _ (List.mem_of_getElem? (i := 18) rfl))) (by decide) (t := (.array .int)) (t' := (.array .int)) (by decide) (by decide)))).ext E68).other W83 (Or.inr (slot_ne (Or.inr (hw _ (List.mem_of_getElem? (i := 16) rfl))) (Or.inr (hw _ (List.mem_of_getElem? (i := 20) rfl))) (by decide) (t := (.array .int)) (t' := (.array .int)) (by decide) (by decide)))).ext E86).other W103 (Or.inr (slot_ne (Or.inr (hw _ (List.mem_of_getElem? (i := 16) rfl))) (Or.inr (hw _ (List.mem_of_getElem? (i := 22) rfl))) (by decide) (t := (.array .int)) (t' := (.array .int)) (by decide) (by decide)))).ext E106).other W125 (Or.inr (slot_ne (Or.inr (hw _ (List.mem_of_getElem? (i := 16) rfl))) (Or.inr (hw _ (List.mem_of_getElem? (i := 24) rfl))) (by decide) (t := (.array .int)) (t' := (.array .long)) (by decide) (by decide)))).ext E128).other W149 (Or.inr (slot_ne (Or.inr (hw _ (List.mem_of_getElem? (i := 16) rfl))) (Or.inr (hw _ (List.mem_of_getElem? (i := 26) rfl))) (by decide) (t := (.array .int)) (t' := (.array .int)) (by decide) (by decide)))).ext E152)
  obtain ⟨T175, X175, e175, st175⟩ := getF X152 hx hZ hown (host := "") (Or.inl (hw _ (List.mem_of_getElem? (i := 15) rfl))) Via.refl e152 F176 (g := (mkF m 152 #[.val (.ref a1), .val (.int (2 : Int32)), .val (.ref a3), .val (.ref a4), .val (.ref a5), .val (.ref a6), .val (.int (2 : Int32)), .val (.ref b152), .unset, .unset, .unset] [(.ref a1)])) rfl rfl (hb hby d1_152)
  have F178 := (F163.ext E152)
  obtain ⟨ka177, VA177⟩ := F178.arv (.int (0 : Int32)) (by simp [fits])
  obtain ⟨kb177, VB177⟩ := V_b152.arv (.int (0 : Int32)) (by simp [fits])
  obtain ⟨T177, h177, L177, X177, e177, N177, K177c, V177c, st177⟩ := cpA X175 hx hZ hown (hw _ (List.mem_of_getElem? (i := 27) rfl)) (hw _ (List.mem_of_getElem? (i := 30) rfl)) (hw _ (List.mem_of_getElem? (i := 28) rfl)) (hw _ (List.mem_of_getElem? (i := 29) rfl)) e175 VA177 VB177 (Or.inl ⟨rfl, rfl⟩) (us := [(.int (0 : Int32)), (.int (2 : Int32))]) (by decide) (by decide) (by decide) (by decide) (by decide) rfl (by decide) N149 g_b152 (g := (mkF m 160 #[.val (.ref a1), .val (.int (2 : Int32)), .val (.ref a3), .val (.ref a4), .val (.ref a5), .val (.ref a6), .val (.int (2 : Int32)), .val (.ref b152), .unset, .unset, .unset] [(.int (2 : Int32)), (.int (0 : Int32)), (.ref b152), (.int (0 : Int32)), (.ref b3)])) rfl (by rw [hml]; rfl) rfl (hb hby d1_160) (by decide) (W := 0) (by show 2 * 0 + _ ≤ _; exact Nat.le_of_eq rfl) (by decide)
  have V177 : AV Z h177 b152 .int (2 : Int32) [(.int (0 : Int32)), (.int (2 : Int32))] := AV.of_arv V177c rfl
  have K179 : Keep h0 h177 [a1] := K152.trans K177c (allS (Or.inr sz_b152) all0)
  have F181 := ((F155.ext E152).keep K177c (ninS ne156 nin0))
  obtain ⟨cl180, A180, S180, Nl180, M180⟩ := id F181
  have hin180 : ¬ ((0 : Int32) < 0 ∨ cl180.slots.size ≤ ((0 : Int32)).toNatClampNeg) := AV.inb S180 Nl180 ⟨by decide, by decide⟩
  have hat180 : cl180.slots[((0 : Int32)).toNatClampNeg]? = some (.int (0 : Int32)) := AV.at S180 rfl
  obtain ⟨cl182, A182, S182, Nl182, M182⟩ := id V177
  have hin182 : ¬ ((0 : Int32) < 0 ∨ cl182.slots.size ≤ ((0 : Int32)).toNatClampNeg) := AV.inb S182 Nl182 ⟨by decide, by decide⟩
  have hat182 : cl182.slots[((0 : Int32)).toNatClampNeg]? = some (.int (0 : Int32)) := AV.at S182 rfl
  obtain ⟨cl183, A183, S183, Nl183, M183⟩ := id V177
  have hin183 : ¬ ((0 : Int32) < 0 ∨ cl183.slots.size ≤ ((0 : Int32)).toNatClampNeg) := AV.inb S183 Nl183 ⟨by decide, by decide⟩
  obtain ⟨T183, h183, X183, e183, W183, st183⟩ := stI X177 hx hZ e177 A183 (j := (0 : Int32)) hin183 (g := (mkF m 184 #[.val (.ref a1), .val (.int (2 : Int32)), .val (.ref a3), .val (.ref a4), .val (.ref a5), .val (.ref a6), .val (.int (2 : Int32)), .val (.ref b152), .val (.int (0 : Int32)), .unset, .unset] [(.int (1 : Int32)), (.int (0 : Int32)), (.ref b152), (.int (0 : Int32))])) rfl rfl (hb hby d1_184)
  have V183 : AV Z h183 b152 .int (2 : Int32) [(.int (1 : Int32)), (.int (2 : Int32))] := AV.set A183 S183 Nl183 M183 W183
  have K183 : Keep h0 h183 [a1] := K179.wr W183 (Or.inr sz_b152)
  have N183 := Fr.snoc X183 N177 g_b152
  have F185 := (((F157.ext E152).keep K177c (ninS ne158 nin0)).other W183 ne158)
  obtain ⟨cl184, A184, S184, Nl184, M184⟩ := id F185
  have hin184 : ¬ ((0 : Int32) < 0 ∨ cl184.slots.size ≤ ((0 : Int32)).toNatClampNeg) := AV.inb S184 Nl184 ⟨by decide, by decide⟩
  have hat184 : cl184.slots[((0 : Int32)).toNatClampNeg]? = some (.int (1 : Int32)) := AV.at S184 rfl
  obtain ⟨cl186, A186, S186, Nl186, M186⟩ := id V183
  have hin186 : ¬ ((1 : Int32) < 0 ∨ cl186.slots.size ≤ ((1 : Int32)).toNatClampNeg) := AV.inb S186 Nl186 ⟨by decide, by decide⟩
  have hat186 : cl186.slots[((1 : Int32)).toNatClampNeg]? = some (.int (2 : Int32)) := AV.at S186 rfl
  obtain ⟨cl187, A187, S187, Nl187, M187⟩ := id V183
  have hin187 : ¬ ((1 : Int32) < 0 ∨ cl187.slots.size ≤ ((1 : Int32)).toNatClampNeg) := AV.inb S187 Nl187 ⟨by decide, by decide⟩
  obtain ⟨T187, h187, X187, e187, W187, st187⟩ := stI X183 hx hZ e183 A187 (j := (1 : Int32)) hin187 (g := (mkF m 198 #[.val (.ref a1), .val (.int (2 : Int32)), .val (.ref a3), .val (.ref a4), .val (.ref a5), .val (.ref a6), .val (.int (2 : Int32)), .val (.ref b152), .val (.int (0 : Int32)), .val (.int (0 : Int32)), .unset] [(.int (3 : Int32)), (.int (1 : Int32)), (.ref b152), (.int (2 : Int32))])) rfl rfl (hb hby d1_198)
  have V187 : AV Z h187 b152 .int (2 : Int32) [(.int (1 : Int32)), (.int (3 : Int32))] := AV.set A187 S187 Nl187 M187 W187
  have K187 : Keep h0 h187 [a1] := K183.wr W187 (Or.inr sz_b152)
  have N187 := Fr.snoc X187 N183 g_b152
  have F189 := ((((((((((((Fw65.ext E68).other W83 (Or.inr (slot_ne (Or.inr (hw _ (List.mem_of_getElem? (i := 18) rfl))) (Or.inr (hw _ (List.mem_of_getElem? (i := 20) rfl))) (by decide) (t := (.array .int)) (t' := (.array .int)) (by decide) (by decide)))).ext E86).other W103 (Or.inr (slot_ne (Or.inr (hw _ (List.mem_of_getElem? (i := 18) rfl))) (Or.inr (hw _ (List.mem_of_getElem? (i := 22) rfl))) (by decide) (t := (.array .int)) (t' := (.array .int)) (by decide) (by decide)))).ext E106).other W125 (Or.inr (slot_ne (Or.inr (hw _ (List.mem_of_getElem? (i := 18) rfl))) (Or.inr (hw _ (List.mem_of_getElem? (i := 24) rfl))) (by decide) (t := (.array .int)) (t' := (.array .long)) (by decide) (by decide)))).ext E128).other W149 (Or.inr (slot_ne (Or.inr (hw _ (List.mem_of_getElem? (i := 18) rfl))) (Or.inr (hw _ (List.mem_of_getElem? (i := 26) rfl))) (by decide) (t := (.array .int)) (t' := (.array .int)) (by decide) (by decide)))).ext E152).keep K177c (ninS ne154 nin0)).other W183 (Or.inl ne154)).other W187 (Or.inl ne154))
  obtain ⟨T188, X188, e188, st188⟩ := getF X187 hx hZ hown (host := "") (Or.inl (hw _ (List.mem_of_getElem? (i := 17) rfl))) Via.refl e187 F189 (g := (mkF m 202 #[.val (.ref a1), .val (.int (2 : Int32)), .val (.ref a3), .val (.ref a4), .val (.ref a5), .val (.ref a6), .val (.int (2 : Int32)), .val (.ref b152), .val (.int (0 : Int32)), .val (.int (0 : Int32)), .val (.int (2 : Int32))] [(.ref a1)])) rfl rfl (hb hby d1_202)
  have F191 := (F185.other W187 ne158)
  obtain ⟨cl190, A190, S190, Nl190, M190⟩ := id F191
  have hin190 : ¬ ((0 : Int32) < 0 ∨ cl190.slots.size ≤ ((0 : Int32)).toNatClampNeg) := AV.inb S190 Nl190 ⟨by decide, by decide⟩
  have hat190 : cl190.slots[((0 : Int32)).toNatClampNeg]? = some (.int (1 : Int32)) := AV.at S190 rfl
  have F193 := ((((F165.ext E152).keep K177c (ninS ne166 nin0)).other W183 ne166).other W187 ne166)
  obtain ⟨cl192, A192, S192, Nl192, M192⟩ := id F193
  have hin192 : ¬ ((0 : Int32) < 0 ∨ cl192.slots.size ≤ ((0 : Int32)).toNatClampNeg) := AV.inb S192 Nl192 ⟨by decide, by decide⟩
  obtain ⟨T192, h192, X192, e192, W192, st192⟩ := stI X188 hx hZ e188 A192 (j := (0 : Int32)) hin192 (g := (mkF m 211 #[.val (.ref a1), .val (.int (2 : Int32)), .val (.ref a3), .val (.ref a4), .val (.ref a5), .val (.ref a6), .val (.int (2 : Int32)), .val (.ref b152), .val (.int (0 : Int32)), .val (.int (0 : Int32)), .val (.int (2 : Int32))] [(.int (1 : Int32)), (.int (0 : Int32)), (.ref b53)])) rfl rfl (hb hby d1_211)
  have V192 : AV Z h192 b53 .int (4 : Int32) [(.int (1 : Int32)), (.int (0 : Int32)), (.int (0 : Int32)), (.int (0 : Int32))] := AV.set A192 S192 Nl192 M192 W192
  have K192 : Keep h0 h192 [a1] := K187.wr W192 (Or.inr sz_b53)
  have N192 := Fr.snoc X192 N187 g_b53
  have F195 := (F189.other W192 (Or.inl ne55))
  obtain ⟨T194, X194, e194, st194⟩ := getF X192 hx hZ hown (host := "") (Or.inl (hw _ (List.mem_of_getElem? (i := 17) rfl))) Via.refl e192 F195 (g := (mkF m 213 #[.val (.ref a1), .val (.int (2 : Int32)), .val (.ref a3), .val (.ref a4), .val (.ref a5), .val (.ref a6), .val (.int (2 : Int32)), .val (.ref b152), .val (.int (0 : Int32)), .val (.int (0 : Int32)), .val (.int (2 : Int32))] [(.ref a1)])) rfl rfl (hb hby d1_213)
  have F197 := (((F181.other W183 ne156).other W187 ne156).other W192 ne57)
  obtain ⟨cl196, A196, S196, Nl196, M196⟩ := id F197
  have hin196 : ¬ ((0 : Int32) < 0 ∨ cl196.slots.size ≤ ((0 : Int32)).toNatClampNeg) := AV.inb S196 Nl196 ⟨by decide, by decide⟩
  have hat196 : cl196.slots[((0 : Int32)).toNatClampNeg]? = some (.int (0 : Int32)) := AV.at S196 rfl
  obtain ⟨cl198, A198, S198, Nl198, M198⟩ := id V192
  have hin198 : ¬ ((2 : Int32) < 0 ∨ cl198.slots.size ≤ ((2 : Int32)).toNatClampNeg) := AV.inb S198 Nl198 ⟨by decide, by decide⟩
  obtain ⟨T198, h198, X198, e198, W198, st198⟩ := stI X194 hx hZ e194 A198 (j := (2 : Int32)) hin198 (g := (mkF m 222 #[.val (.ref a1), .val (.int (2 : Int32)), .val (.ref a3), .val (.ref a4), .val (.ref a5), .val (.ref a6), .val (.int (2 : Int32)), .val (.ref b152), .val (.int (0 : Int32)), .val (.int (0 : Int32)), .val (.int (2 : Int32))] [(.int (0 : Int32)), (.int (2 : Int32)), (.ref b53)])) rfl rfl (hb hby d1_222)
  have V198 : AV Z h198 b53 .int (4 : Int32) [(.int (1 : Int32)), (.int (0 : Int32)), (.int (0 : Int32)), (.int (0 : Int32))] := AV.set A198 S198 Nl198 M198 W198
  have K198 : Keep h0 h198 [a1] := K192.wr W198 (Or.inr sz_b53)
  have N198 := Fr.snoc X198 N192 g_b53
  have F200 := ((((((((((((Fw83.ext E86).other W103 (Or.inr (slot_ne (Or.inr (hw _ (List.mem_of_getElem? (i := 20) rfl))) (Or.inr (hw _ (List.mem_of_getElem? (i := 22) rfl))) (by decide) (t := (.array .int)) (t' := (.array .int)) (by decide) (by decide)))).ext E106).other W125 (Or.inr (slot_ne (Or.inr (hw _ (List.mem_of_getElem? (i := 20) rfl))) (Or.inr (hw _ (List.mem_of_getElem? (i := 24) rfl))) (by decide) (t := (.array .int)) (t' := (.array .long)) (by decide) (by decide)))).ext E128).other W149 (Or.inr (slot_ne (Or.inr (hw _ (List.mem_of_getElem? (i := 20) rfl))) (Or.inr (hw _ (List.mem_of_getElem? (i := 26) rfl))) (by decide) (t := (.array .int)) (t' := (.array .int)) (by decide) (by decide)))).ext E152).keep K177c (ninS ne154 nin0)).other W183 (Or.inl ne154)).other W187 (Or.inl ne154)).other W192 (Or.inl ne55)).other W198 (Or.inl ne55))
  obtain ⟨T199, X199, e199, st199⟩ := getF X198 hx hZ hown (host := "") (Or.inl (hw _ (List.mem_of_getElem? (i := 19) rfl))) Via.refl e198 F200 (g := (mkF m 224 #[.val (.ref a1), .val (.int (2 : Int32)), .val (.ref a3), .val (.ref a4), .val (.ref a5), .val (.ref a6), .val (.int (2 : Int32)), .val (.ref b152), .val (.int (0 : Int32)), .val (.int (0 : Int32)), .val (.int (2 : Int32))] [(.ref a1)])) rfl rfl (hb hby d1_224)
  have F202 := ((((((F167.ext E152).keep K177c (ninS ne168 nin0)).other W183 ne168).other W187 ne168).other W192 (Ne.symm ne82)).other W198 (Ne.symm ne82))
  obtain ⟨cl201, A201, S201, Nl201, M201⟩ := id F202
  have hin201 : ¬ ((0 : Int32) < 0 ∨ cl201.slots.size ≤ ((0 : Int32)).toNatClampNeg) := AV.inb S201 Nl201 ⟨by decide, by decide⟩
  obtain ⟨T201, h201, X201, e201, W201, st201⟩ := stI X199 hx hZ e199 A201 (j := (0 : Int32)) hin201 (g := (mkF m 231 #[.val (.ref a1), .val (.int (2 : Int32)), .val (.ref a3), .val (.ref a4), .val (.ref a5), .val (.ref a6), .val (.int (2 : Int32)), .val (.ref b152), .val (.int (0 : Int32)), .val (.int (0 : Int32)), .val (.int (2 : Int32))] [(.int (2 : Int32)), (.int (0 : Int32)), (.ref b68)])) rfl rfl (hb hby d1_231)
  have V201 : AV Z h201 b68 .int (4 : Int32) [(.int (2 : Int32)), (.int (0 : Int32)), (.int (0 : Int32)), (.int (0 : Int32))] := AV.set A201 S201 Nl201 M201 W201
  have K201 : Keep h0 h201 [a1] := K198.wr W201 (Or.inr sz_b68)
  have N201 := Fr.snoc X201 N198 g_b68
  have F204 := (F200.other W201 (Or.inl ne70))
  obtain ⟨T203, X203, e203, st203⟩ := getF X201 hx hZ hown (host := "") (Or.inl (hw _ (List.mem_of_getElem? (i := 19) rfl))) Via.refl e201 F204 (g := (mkF m 233 #[.val (.ref a1), .val (.int (2 : Int32)), .val (.ref a3), .val (.ref a4), .val (.ref a5), .val (.ref a6), .val (.int (2 : Int32)), .val (.ref b152), .val (.int (0 : Int32)), .val (.int (0 : Int32)), .val (.int (2 : Int32))] [(.ref a1)])) rfl rfl (hb hby d1_233)
  obtain ⟨cl205, A205, S205, Nl205, M205⟩ := id V201
  have hin205 : ¬ ((2 : Int32) < 0 ∨ cl205.slots.size ≤ ((2 : Int32)).toNatClampNeg) := AV.inb S205 Nl205 ⟨by decide, by decide⟩
  obtain ⟨T205, h205, X205, e205, W205, st205⟩ := stI X203 hx hZ e203 A205 (j := (2 : Int32)) hin205 (g := (mkF m 240 #[.val (.ref a1), .val (.int (2 : Int32)), .val (.ref a3), .val (.ref a4), .val (.ref a5), .val (.ref a6), .val (.int (2 : Int32)), .val (.ref b152), .val (.int (0 : Int32)), .val (.int (0 : Int32)), .val (.int (2 : Int32))] [(.int (0 : Int32)), (.int (2 : Int32)), (.ref b68)])) rfl rfl (hb hby d1_240)
  have V205 : AV Z h205 b68 .int (4 : Int32) [(.int (2 : Int32)), (.int (0 : Int32)), (.int (0 : Int32)), (.int (0 : Int32))] := AV.set A205 S205 Nl205 M205 W205
  have K205 : Keep h0 h205 [a1] := K201.wr W205 (Or.inr sz_b68)
  have N205 := Fr.snoc X205 N201 g_b68
  have F207 := ((((((((((((Fw103.ext E106).other W125 (Or.inr (slot_ne (Or.inr (hw _ (List.mem_of_getElem? (i := 22) rfl))) (Or.inr (hw _ (List.mem_of_getElem? (i := 24) rfl))) (by decide) (t := (.array .int)) (t' := (.array .long)) (by decide) (by decide)))).ext E128).other W149 (Or.inr (slot_ne (Or.inr (hw _ (List.mem_of_getElem? (i := 22) rfl))) (Or.inr (hw _ (List.mem_of_getElem? (i := 26) rfl))) (by decide) (t := (.array .int)) (t' := (.array .int)) (by decide) (by decide)))).ext E152).keep K177c (ninS ne154 nin0)).other W183 (Or.inl ne154)).other W187 (Or.inl ne154)).other W192 (Or.inl ne55)).other W198 (Or.inl ne55)).other W201 (Or.inl ne70)).other W205 (Or.inl ne70))
  obtain ⟨T206, X206, e206, st206⟩ := getF X205 hx hZ hown (host := "") (Or.inl (hw _ (List.mem_of_getElem? (i := 21) rfl))) Via.refl e205 F207 (g := (mkF m 242 #[.val (.ref a1), .val (.int (2 : Int32)), .val (.ref a3), .val (.ref a4), .val (.ref a5), .val (.ref a6), .val (.int (2 : Int32)), .val (.ref b152), .val (.int (0 : Int32)), .val (.int (0 : Int32)), .val (.int (2 : Int32))] [(.ref a1)])) rfl rfl (hb hby d1_242)
  have F209 := ((((((((F159.ext E152).keep K177c (ninS ne160 nin0)).other W183 ne160).other W187 ne160).other W192 ne61).other W198 ne61).other W201 ne76).other W205 ne76)
  obtain ⟨cl208, A208, S208, Nl208, M208⟩ := id F209
  have hin208 : ¬ ((0 : Int32) < 0 ∨ cl208.slots.size ≤ ((0 : Int32)).toNatClampNeg) := AV.inb S208 Nl208 ⟨by decide, by decide⟩
  have hat208 : cl208.slots[((0 : Int32)).toNatClampNeg]? = some (.int x1) := AV.at S208 rfl
  have F211 := ((((((((F169.ext E152).keep K177c (ninS ne170 nin0)).other W183 ne170).other W187 ne170).other W192 (Ne.symm ne100)).other W198 (Ne.symm ne100)).other W201 (Ne.symm ne102)).other W205 (Ne.symm ne102))
  obtain ⟨cl210, A210, S210, Nl210, M210⟩ := id F211
  have hin210 : ¬ ((0 : Int32) < 0 ∨ cl210.slots.size ≤ ((0 : Int32)).toNatClampNeg) := AV.inb S210 Nl210 ⟨by decide, by decide⟩
  obtain ⟨T210, h210, X210, e210, W210, st210⟩ := stI X206 hx hZ e206 A210 (j := (0 : Int32)) hin210 (g := (mkF m 252 #[.val (.ref a1), .val (.int (2 : Int32)), .val (.ref a3), .val (.ref a4), .val (.ref a5), .val (.ref a6), .val (.int (2 : Int32)), .val (.ref b152), .val (.int (0 : Int32)), .val (.int (0 : Int32)), .val (.int (2 : Int32))] [(.int x1), (.int (0 : Int32)), (.ref b86)])) rfl rfl (hb hby d1_252)
  have V210 : AV Z h210 b86 .int (4 : Int32) [(.int x1), (.int (0 : Int32)), (.int (0 : Int32)), (.int (0 : Int32))] := AV.set A210 S210 Nl210 M210 W210
  have K210 : Keep h0 h210 [a1] := K205.wr W210 (Or.inr sz_b86)
  have N210 := Fr.snoc X210 N205 g_b86
  have F213 := (((((((((((Fw125.ext E128).other W149 (Or.inr (slot_ne (Or.inr (hw _ (List.mem_of_getElem? (i := 24) rfl))) (Or.inr (hw _ (List.mem_of_getElem? (i := 26) rfl))) (by decide) (t := (.array .long)) (t' := (.array .int)) (by decide) (by decide)))).ext E152).keep K177c (ninS ne154 nin0)).other W183 (Or.inl ne154)).other W187 (Or.inl ne154)).other W192 (Or.inl ne55)).other W198 (Or.inl ne55)).other W201 (Or.inl ne70)).other W205 (Or.inl ne70)).other W210 (Or.inl ne88))
  obtain ⟨T212, X212, e212, st212⟩ := getF X210 hx hZ hown (host := "") (Or.inl (hw _ (List.mem_of_getElem? (i := 23) rfl))) Via.refl e210 F213 (g := (mkF m 254 #[.val (.ref a1), .val (.int (2 : Int32)), .val (.ref a3), .val (.ref a4), .val (.ref a5), .val (.ref a6), .val (.int (2 : Int32)), .val (.ref b152), .val (.int (0 : Int32)), .val (.int (0 : Int32)), .val (.int (2 : Int32))] [(.ref a1)])) rfl rfl (hb hby d1_254)
  have F215 := (((((((((F161.ext E152).keep K177c (ninS ne162 nin0)).other W183 ne162).other W187 ne162).other W192 ne63).other W198 ne63).other W201 ne78).other W205 ne78).other W210 ne96)
  obtain ⟨cl214, A214, S214, Nl214, M214⟩ := id F215
  have hin214 : ¬ ((0 : Int32) < 0 ∨ cl214.slots.size ≤ ((0 : Int32)).toNatClampNeg) := AV.inb S214 Nl214 ⟨by decide, by decide⟩
  have hat214 : cl214.slots[((0 : Int32)).toNatClampNeg]? = some (.long (5 : Int64)) := AV.at S214 rfl
  have F217 := (((((((((F171.ext E152).keep K177c (ninS ne172 nin0)).other W183 ne172).other W187 ne172).other W192 (Ne.symm ne120)).other W198 (Ne.symm ne120)).other W201 (Ne.symm ne122)).other W205 (Ne.symm ne122)).other W210 (Ne.symm ne124))
  obtain ⟨cl216, A216, S216, Nl216, M216⟩ := id F217
  have hin216 : ¬ ((0 : Int32) < 0 ∨ cl216.slots.size ≤ ((0 : Int32)).toNatClampNeg) := AV.inb S216 Nl216 ⟨by decide, by decide⟩
  obtain ⟨T216, h216, X216, e216, W216, st216⟩ := stJ X212 hx hZ e212 A216 (j := (0 : Int32)) hin216 (g := (mkF m 264 #[.val (.ref a1), .val (.int (2 : Int32)), .val (.ref a3), .val (.ref a4), .val (.ref a5), .val (.ref a6), .val (.int (2 : Int32)), .val (.ref b152), .val (.int (0 : Int32)), .val (.int (0 : Int32)), .val (.int (2 : Int32))] [(.long (5 : Int64)), (.int (0 : Int32)), (.ref b106)])) rfl rfl (hb hby d1_264)
  have V216 : AV Z h216 b106 .long (4 : Int32) [(.long (5 : Int64)), (.long (0 : Int64)), (.long (0 : Int64)), (.long (0 : Int64))] := AV.set A216 S216 Nl216 M216 W216
  have K216 : Keep h0 h216 [a1] := K210.wr W216 (Or.inr sz_b106)
  have N216 := Fr.snoc X216 N210 g_b106
  have F219 := (F213.other W216 (Or.inl ne108))
  obtain ⟨T218, X218, e218, st218⟩ := getF X216 hx hZ hown (host := "") (Or.inl (hw _ (List.mem_of_getElem? (i := 23) rfl))) Via.refl e216 F219 (g := (mkF m 266 #[.val (.ref a1), .val (.int (2 : Int32)), .val (.ref a3), .val (.ref a4), .val (.ref a5), .val (.ref a6), .val (.int (2 : Int32)), .val (.ref b152), .val (.int (0 : Int32)), .val (.int (0 : Int32)), .val (.int (2 : Int32))] [(.ref a1)])) rfl rfl (hb hby d1_266)
  have F221 := (F215.other W216 ne116)
  obtain ⟨cl220, A220, S220, Nl220, M220⟩ := id F221
  have hin220 : ¬ ((0 : Int32) < 0 ∨ cl220.slots.size ≤ ((0 : Int32)).toNatClampNeg) := AV.inb S220 Nl220 ⟨by decide, by decide⟩
  have hat220 : cl220.slots[((0 : Int32)).toNatClampNeg]? = some (.long (5 : Int64)) := AV.at S220 rfl
  obtain ⟨cl222, A222, S222, Nl222, M222⟩ := id V216
  have hin222 : ¬ ((2 : Int32) < 0 ∨ cl222.slots.size ≤ ((2 : Int32)).toNatClampNeg) := AV.inb S222 Nl222 ⟨by decide, by decide⟩
  obtain ⟨T222, h222, X222, e222, W222, st222⟩ := stJ X218 hx hZ e218 A222 (j := (2 : Int32)) hin222 (g := (mkF m 277 #[.val (.ref a1), .val (.int (2 : Int32)), .val (.ref a3), .val (.ref a4), .val (.ref a5), .val (.ref a6), .val (.int (2 : Int32)), .val (.ref b152), .val (.int (0 : Int32)), .val (.int (0 : Int32)), .val (.int (2 : Int32))] [(.long (-5 : Int64)), (.int (2 : Int32)), (.ref b106)])) rfl rfl (hb hby d1_277)
  have V222 : AV Z h222 b106 .long (4 : Int32) [(.long (5 : Int64)), (.long (0 : Int64)), (.long (-5 : Int64)), (.long (0 : Int64))] := AV.set A222 S222 Nl222 M222 W222
  have K222 : Keep h0 h222 [a1] := K216.wr W222 (Or.inr sz_b106)
  have N222 := Fr.snoc X222 N216 g_b106
  have F224 := (((((((((((Fw149.ext E152).keep K177c (ninS ne154 nin0)).other W183 (Or.inl ne154)).other W187 (Or.inl ne154)).other W192 (Or.inl ne55)).other W198 (Or.inl ne55)).other W201 (Or.inl ne70)).other W205 (Or.inl ne70)).other W210 (Or.inl ne88)).other W216 (Or.inl ne108)).other W222 (Or.inl ne108))
  obtain ⟨T223, X223, e223, st223⟩ := getF X222 hx hZ hown (host := "") (Or.inl (hw _ (List.mem_of_getElem? (i := 25) rfl))) Via.refl e222 F224 (g := (mkF m 279 #[.val (.ref a1), .val (.int (2 : Int32)), .val (.ref a3), .val (.ref a4), .val (.ref a5), .val (.ref a6), .val (.int (2 : Int32)), .val (.ref b152), .val (.int (0 : Int32)), .val (.int (0 : Int32)), .val (.int (2 : Int32))] [(.ref a1)])) rfl rfl (hb hby d1_279)
  have F226 := (((((((((((F173.ext E152).keep K177c (ninS ne174 nin0)).other W183 ne174).other W187 ne174).other W192 (Ne.symm ne142)).other W198 (Ne.symm ne142)).other W201 (Ne.symm ne144)).other W205 (Ne.symm ne144)).other W210 (Ne.symm ne146)).other W216 (Ne.symm ne148)).other W222 (Ne.symm ne148))
  obtain ⟨cl225, A225, S225, Nl225, M225⟩ := id F226
  have hin225 : ¬ ((0 : Int32) < 0 ∨ cl225.slots.size ≤ ((0 : Int32)).toNatClampNeg) := AV.inb S225 Nl225 ⟨by decide, by decide⟩
  obtain ⟨T225, h225, X225, e225, W225, st225⟩ := stI X223 hx hZ e223 A225 (j := (0 : Int32)) hin225 (g := (mkF m 286 #[.val (.ref a1), .val (.int (2 : Int32)), .val (.ref a3), .val (.ref a4), .val (.ref a5), .val (.ref a6), .val (.int (2 : Int32)), .val (.ref b152), .val (.int (0 : Int32)), .val (.int (0 : Int32)), .val (.int (2 : Int32))] [(.int (0 : Int32)), (.int (0 : Int32)), (.ref b128)])) rfl rfl (hb hby d1_286)
  have V225 : AV Z h225 b128 .int (2 : Int32) [(.int (0 : Int32)), (.int (0 : Int32))] := AV.set A225 S225 Nl225 M225 W225
  have K225 : Keep h0 h225 [a1] := K222.wr W225 (Or.inr sz_b128)
  have N225 := Fr.snoc X225 N222 g_b128
  have F228 := (((((((F197.other W198 ne57).other W201 ne72).other W205 ne72).other W210 ne90).other W216 ne110).other W222 ne110).other W225 ne132)
  obtain ⟨cl227, A227, S227, Nl227, M227⟩ := id F228
  have hin227 : ¬ ((1 : Int32) < 0 ∨ cl227.slots.size ≤ ((1 : Int32)).toNatClampNeg) := AV.inb S227 Nl227 ⟨by decide, by decide⟩
  have hat227 : cl227.slots[((1 : Int32)).toNatClampNeg]? = some (.int (1 : Int32)) := AV.at S227 rfl
  have F230 := ((((((((V187.other W192 (Ne.symm ne166)).other W198 (Ne.symm ne166)).other W201 (Ne.symm ne168)).other W205 (Ne.symm ne168)).other W210 (Ne.symm ne170)).other W216 (Ne.symm ne172)).other W222 (Ne.symm ne172)).other W225 (Ne.symm ne174))
  obtain ⟨cl229, A229, S229, Nl229, M229⟩ := id F230
  have hin229 : ¬ ((1 : Int32) < 0 ∨ cl229.slots.size ≤ ((1 : Int32)).toNatClampNeg) := AV.inb S229 Nl229 ⟨by decide, by decide⟩
  have hat229 : cl229.slots[((1 : Int32)).toNatClampNeg]? = some (.int (3 : Int32)) := AV.at S229 rfl
  obtain ⟨cl231, A231, S231, Nl231, M231⟩ := id F230
  have hin231 : ¬ ((1 : Int32) < 0 ∨ cl231.slots.size ≤ ((1 : Int32)).toNatClampNeg) := AV.inb S231 Nl231 ⟨by decide, by decide⟩
  obtain ⟨T231, h231, X231, e231, W231, st231⟩ := stI X225 hx hZ e225 A231 (j := (1 : Int32)) hin231 (g := (mkF m 184 #[.val (.ref a1), .val (.int (2 : Int32)), .val (.ref a3), .val (.ref a4), .val (.ref a5), .val (.ref a6), .val (.int (2 : Int32)), .val (.ref b152), .val (.int (1 : Int32)), .val (.int (0 : Int32)), .val (.int (2 : Int32))] [(.int (4 : Int32)), (.int (1 : Int32)), (.ref b152), (.int (3 : Int32))])) rfl rfl (hb hby d1_184)
  have V231 : AV Z h231 b152 .int (2 : Int32) [(.int (1 : Int32)), (.int (4 : Int32))] := AV.set A231 S231 Nl231 M231 W231
  have K231 : Keep h0 h231 [a1] := K225.wr W231 (Or.inr sz_b152)
  have N231 := Fr.snoc X231 N225 g_b152
  have F233 := (((((((((F191.other W192 ne59).other W198 ne59).other W201 ne74).other W205 ne74).other W210 ne92).other W216 ne112).other W222 ne112).other W225 ne134).other W231 ne158)
  obtain ⟨cl232, A232, S232, Nl232, M232⟩ := id F233
  have hin232 : ¬ ((1 : Int32) < 0 ∨ cl232.slots.size ≤ ((1 : Int32)).toNatClampNeg) := AV.inb S232 Nl232 ⟨by decide, by decide⟩
  have hat232 : cl232.slots[((1 : Int32)).toNatClampNeg]? = some (.int (0 : Int32)) := AV.at S232 rfl
  obtain ⟨cl234, A234, S234, Nl234, M234⟩ := id V231
  have hin234 : ¬ ((0 : Int32) < 0 ∨ cl234.slots.size ≤ ((0 : Int32)).toNatClampNeg) := AV.inb S234 Nl234 ⟨by decide, by decide⟩
  have hat234 : cl234.slots[((0 : Int32)).toNatClampNeg]? = some (.int (1 : Int32)) := AV.at S234 rfl
  obtain ⟨cl235, A235, S235, Nl235, M235⟩ := id V231
  have hin235 : ¬ ((0 : Int32) < 0 ∨ cl235.slots.size ≤ ((0 : Int32)).toNatClampNeg) := AV.inb S235 Nl235 ⟨by decide, by decide⟩
  obtain ⟨T235, h235, X235, e235, W235, st235⟩ := stI X231 hx hZ e231 A235 (j := (0 : Int32)) hin235 (g := (mkF m 198 #[.val (.ref a1), .val (.int (2 : Int32)), .val (.ref a3), .val (.ref a4), .val (.ref a5), .val (.ref a6), .val (.int (2 : Int32)), .val (.ref b152), .val (.int (1 : Int32)), .val (.int (3 : Int32)), .val (.int (2 : Int32))] [(.int (2 : Int32)), (.int (0 : Int32)), (.ref b152), (.int (1 : Int32))])) rfl rfl (hb hby d1_198)
  have V235 : AV Z h235 b152 .int (2 : Int32) [(.int (2 : Int32)), (.int (4 : Int32))] := AV.set A235 S235 Nl235 M235 W235
  have K235 : Keep h0 h235 [a1] := K231.wr W235 (Or.inr sz_b152)
  have N235 := Fr.snoc X235 N231 g_b152
  have F237 := (((((((((F195.other W198 (Or.inl ne55)).other W201 (Or.inl ne70)).other W205 (Or.inl ne70)).other W210 (Or.inl ne88)).other W216 (Or.inl ne108)).other W222 (Or.inl ne108)).other W225 (Or.inl ne130)).other W231 (Or.inl ne154)).other W235 (Or.inl ne154))
  obtain ⟨T236, X236, e236, st236⟩ := getF X235 hx hZ hown (host := "") (Or.inl (hw _ (List.mem_of_getElem? (i := 17) rfl))) Via.refl e235 F237 (g := (mkF m 202 #[.val (.ref a1), .val (.int (2 : Int32)), .val (.ref a3), .val (.ref a4), .val (.ref a5), .val (.ref a6), .val (.int (2 : Int32)), .val (.ref b152), .val (.int (1 : Int32)), .val (.int (3 : Int32)), .val (.int (1 : Int32))] [(.ref a1)])) rfl rfl (hb hby d1_202)
  have F239 := (F233.other W235 ne158)
  obtain ⟨cl238, A238, S238, Nl238, M238⟩ := id F239
  have hin238 : ¬ ((1 : Int32) < 0 ∨ cl238.slots.size ≤ ((1 : Int32)).toNatClampNeg) := AV.inb S238 Nl238 ⟨by decide, by decide⟩
  have hat238 : cl238.slots[((1 : Int32)).toNatClampNeg]? = some (.int (0 : Int32)) := AV.at S238 rfl
  have F241 := ((((((((V198.other W201 ne82).other W205 ne82).other W210 ne100).other W216 ne120).other W222 ne120).other W225 ne142).other W231 ne166).other W235 ne166)
  obtain ⟨cl240, A240, S240, Nl240, M240⟩ := id F241
  have hin240 : ¬ ((3 : Int32) < 0 ∨ cl240.slots.size ≤ ((3 : Int32)).toNatClampNeg) := AV.inb S240 Nl240 ⟨by decide, by decide⟩
  obtain ⟨T240, h240, X240, e240, W240, st240⟩ := stI X236 hx hZ e236 A240 (j := (3 : Int32)) hin240 (g := (mkF m 211 #[.val (.ref a1), .val (.int (2 : Int32)), .val (.ref a3), .val (.ref a4), .val (.ref a5), .val (.ref a6), .val (.int (2 : Int32)), .val (.ref b152), .val (.int (1 : Int32)), .val (.int (3 : Int32)), .val (.int (1 : Int32))] [(.int (0 : Int32)), (.int (3 : Int32)), (.ref b53)])) rfl rfl (hb hby d1_211)
  have V240 : AV Z h240 b53 .int (4 : Int32) [(.int (1 : Int32)), (.int (0 : Int32)), (.int (0 : Int32)), (.int (0 : Int32))] := AV.set A240 S240 Nl240 M240 W240
  have K240 : Keep h0 h240 [a1] := K235.wr W240 (Or.inr sz_b53)
  have N240 := Fr.snoc X240 N235 g_b53
  have F243 := (F237.other W240 (Or.inl ne55))
  obtain ⟨T242, X242, e242, st242⟩ := getF X240 hx hZ hown (host := "") (Or.inl (hw _ (List.mem_of_getElem? (i := 17) rfl))) Via.refl e240 F243 (g := (mkF m 213 #[.val (.ref a1), .val (.int (2 : Int32)), .val (.ref a3), .val (.ref a4), .val (.ref a5), .val (.ref a6), .val (.int (2 : Int32)), .val (.ref b152), .val (.int (1 : Int32)), .val (.int (3 : Int32)), .val (.int (1 : Int32))] [(.ref a1)])) rfl rfl (hb hby d1_213)
  have F245 := (((F228.other W231 ne156).other W235 ne156).other W240 ne57)
  obtain ⟨cl244, A244, S244, Nl244, M244⟩ := id F245
  have hin244 : ¬ ((1 : Int32) < 0 ∨ cl244.slots.size ≤ ((1 : Int32)).toNatClampNeg) := AV.inb S244 Nl244 ⟨by decide, by decide⟩
  have hat244 : cl244.slots[((1 : Int32)).toNatClampNeg]? = some (.int (1 : Int32)) := AV.at S244 rfl
  obtain ⟨cl246, A246, S246, Nl246, M246⟩ := id V240
  have hin246 : ¬ ((1 : Int32) < 0 ∨ cl246.slots.size ≤ ((1 : Int32)).toNatClampNeg) := AV.inb S246 Nl246 ⟨by decide, by decide⟩
  obtain ⟨T246, h246, X246, e246, W246, st246⟩ := stI X242 hx hZ e242 A246 (j := (1 : Int32)) hin246 (g := (mkF m 222 #[.val (.ref a1), .val (.int (2 : Int32)), .val (.ref a3), .val (.ref a4), .val (.ref a5), .val (.ref a6), .val (.int (2 : Int32)), .val (.ref b152), .val (.int (1 : Int32)), .val (.int (3 : Int32)), .val (.int (1 : Int32))] [(.int (1 : Int32)), (.int (1 : Int32)), (.ref b53)])) rfl rfl (hb hby d1_222)
  have V246 : AV Z h246 b53 .int (4 : Int32) [(.int (1 : Int32)), (.int (1 : Int32)), (.int (0 : Int32)), (.int (0 : Int32))] := AV.set A246 S246 Nl246 M246 W246
  have K246 : Keep h0 h246 [a1] := K240.wr W246 (Or.inr sz_b53)
  have N246 := Fr.snoc X246 N240 g_b53
  have F248 := (((((((((F204.other W205 (Or.inl ne70)).other W210 (Or.inl ne88)).other W216 (Or.inl ne108)).other W222 (Or.inl ne108)).other W225 (Or.inl ne130)).other W231 (Or.inl ne154)).other W235 (Or.inl ne154)).other W240 (Or.inl ne55)).other W246 (Or.inl ne55))
  obtain ⟨T247, X247, e247, st247⟩ := getF X246 hx hZ hown (host := "") (Or.inl (hw _ (List.mem_of_getElem? (i := 19) rfl))) Via.refl e246 F248 (g := (mkF m 224 #[.val (.ref a1), .val (.int (2 : Int32)), .val (.ref a3), .val (.ref a4), .val (.ref a5), .val (.ref a6), .val (.int (2 : Int32)), .val (.ref b152), .val (.int (1 : Int32)), .val (.int (3 : Int32)), .val (.int (1 : Int32))] [(.ref a1)])) rfl rfl (hb hby d1_224)
  have F250 := ((((((((V205.other W210 ne102).other W216 ne122).other W222 ne122).other W225 ne144).other W231 ne168).other W235 ne168).other W240 (Ne.symm ne82)).other W246 (Ne.symm ne82))
  obtain ⟨cl249, A249, S249, Nl249, M249⟩ := id F250
  have hin249 : ¬ ((3 : Int32) < 0 ∨ cl249.slots.size ≤ ((3 : Int32)).toNatClampNeg) := AV.inb S249 Nl249 ⟨by decide, by decide⟩
  obtain ⟨T249, h249, X249, e249, W249, st249⟩ := stI X247 hx hZ e247 A249 (j := (3 : Int32)) hin249 (g := (mkF m 231 #[.val (.ref a1), .val (.int (2 : Int32)), .val (.ref a3), .val (.ref a4), .val (.ref a5), .val (.ref a6), .val (.int (2 : Int32)), .val (.ref b152), .val (.int (1 : Int32)), .val (.int (3 : Int32)), .val (.int (1 : Int32))] [(.int (1 : Int32)), (.int (3 : Int32)), (.ref b68)])) rfl rfl (hb hby d1_231)
  have V249 : AV Z h249 b68 .int (4 : Int32) [(.int (2 : Int32)), (.int (0 : Int32)), (.int (0 : Int32)), (.int (1 : Int32))] := AV.set A249 S249 Nl249 M249 W249
  have K249 : Keep h0 h249 [a1] := K246.wr W249 (Or.inr sz_b68)
  have N249 := Fr.snoc X249 N246 g_b68
  have F252 := (F248.other W249 (Or.inl ne70))
  obtain ⟨T251, X251, e251, st251⟩ := getF X249 hx hZ hown (host := "") (Or.inl (hw _ (List.mem_of_getElem? (i := 19) rfl))) Via.refl e249 F252 (g := (mkF m 233 #[.val (.ref a1), .val (.int (2 : Int32)), .val (.ref a3), .val (.ref a4), .val (.ref a5), .val (.ref a6), .val (.int (2 : Int32)), .val (.ref b152), .val (.int (1 : Int32)), .val (.int (3 : Int32)), .val (.int (1 : Int32))] [(.ref a1)])) rfl rfl (hb hby d1_233)
  obtain ⟨cl253, A253, S253, Nl253, M253⟩ := id V249
  have hin253 : ¬ ((1 : Int32) < 0 ∨ cl253.slots.size ≤ ((1 : Int32)).toNatClampNeg) := AV.inb S253 Nl253 ⟨by decide, by decide⟩
  obtain ⟨T253, h253, X253, e253, W253, st253⟩ := stI X251 hx hZ e251 A253 (j := (1 : Int32)) hin253 (g := (mkF m 240 #[.val (.ref a1), .val (.int (2 : Int32)), .val (.ref a3), .val (.ref a4), .val (.ref a5), .val (.ref a6), .val (.int (2 : Int32)), .val (.ref b152), .val (.int (1 : Int32)), .val (.int (3 : Int32)), .val (.int (1 : Int32))] [(.int (3 : Int32)), (.int (1 : Int32)), (.ref b68)])) rfl rfl (hb hby d1_240)
  have V253 : AV Z h253 b68 .int (4 : Int32) [(.int (2 : Int32)), (.int (3 : Int32)), (.int (0 : Int32)), (.int (1 : Int32))] := AV.set A253 S253 Nl253 M253 W253
  have K253 : Keep h0 h253 [a1] := K249.wr W253 (Or.inr sz_b68)
  have N253 := Fr.snoc X253 N249 g_b68
  have F255 := ((((((((((F207.other W210 (Or.inl ne88)).other W216 (Or.inl ne108)).other W222 (Or.inl ne108)).other W225 (Or.inl ne130)).other W231 (Or.inl ne154)).other W235 (Or.inl ne154)).other W240 (Or.inl ne55)).other W246 (Or.inl ne55)).other W249 (Or.inl ne70)).other W253 (Or.inl ne70))
  obtain ⟨T254, X254, e254, st254⟩ := getF X253 hx hZ hown (host := "") (Or.inl (hw _ (List.mem_of_getElem? (i := 21) rfl))) Via.refl e253 F255 (g := (mkF m 242 #[.val (.ref a1), .val (.int (2 : Int32)), .val (.ref a3), .val (.ref a4), .val (.ref a5), .val (.ref a6), .val (.int (2 : Int32)), .val (.ref b152), .val (.int (1 : Int32)), .val (.int (3 : Int32)), .val (.int (1 : Int32))] [(.ref a1)])) rfl rfl (hb hby d1_242)
  have F257 := ((((((((((F209.other W210 ne94).other W216 ne114).other W222 ne114).other W225 ne136).other W231 ne160).other W235 ne160).other W240 ne61).other W246 ne61).other W249 ne76).other W253 ne76)
  obtain ⟨cl256, A256, S256, Nl256, M256⟩ := id F257
  have hin256 : ¬ ((1 : Int32) < 0 ∨ cl256.slots.size ≤ ((1 : Int32)).toNatClampNeg) := AV.inb S256 Nl256 ⟨by decide, by decide⟩
  have hat256 : cl256.slots[((1 : Int32)).toNatClampNeg]? = some (.int x2) := AV.at S256 rfl
  have F259 := (((((((((V210.other W216 ne124).other W222 ne124).other W225 ne146).other W231 ne170).other W235 ne170).other W240 (Ne.symm ne100)).other W246 (Ne.symm ne100)).other W249 (Ne.symm ne102)).other W253 (Ne.symm ne102))
  obtain ⟨cl258, A258, S258, Nl258, M258⟩ := id F259
  have hin258 : ¬ ((3 : Int32) < 0 ∨ cl258.slots.size ≤ ((3 : Int32)).toNatClampNeg) := AV.inb S258 Nl258 ⟨by decide, by decide⟩
  obtain ⟨T258, h258, X258, e258, W258, st258⟩ := stI X254 hx hZ e254 A258 (j := (3 : Int32)) hin258 (g := (mkF m 252 #[.val (.ref a1), .val (.int (2 : Int32)), .val (.ref a3), .val (.ref a4), .val (.ref a5), .val (.ref a6), .val (.int (2 : Int32)), .val (.ref b152), .val (.int (1 : Int32)), .val (.int (3 : Int32)), .val (.int (1 : Int32))] [(.int x2), (.int (3 : Int32)), (.ref b86)])) rfl rfl (hb hby d1_252)
  have V258 : AV Z h258 b86 .int (4 : Int32) [(.int x1), (.int (0 : Int32)), (.int (0 : Int32)), (.int x2)] := AV.set A258 S258 Nl258 M258 W258
  have K258 : Keep h0 h258 [a1] := K253.wr W258 (Or.inr sz_b86)
  have N258 := Fr.snoc X258 N253 g_b86
  have F261 := (((((((((F219.other W222 (Or.inl ne108)).other W225 (Or.inl ne130)).other W231 (Or.inl ne154)).other W235 (Or.inl ne154)).other W240 (Or.inl ne55)).other W246 (Or.inl ne55)).other W249 (Or.inl ne70)).other W253 (Or.inl ne70)).other W258 (Or.inl ne88))
  obtain ⟨T260, X260, e260, st260⟩ := getF X258 hx hZ hown (host := "") (Or.inl (hw _ (List.mem_of_getElem? (i := 23) rfl))) Via.refl e258 F261 (g := (mkF m 254 #[.val (.ref a1), .val (.int (2 : Int32)), .val (.ref a3), .val (.ref a4), .val (.ref a5), .val (.ref a6), .val (.int (2 : Int32)), .val (.ref b152), .val (.int (1 : Int32)), .val (.int (3 : Int32)), .val (.int (1 : Int32))] [(.ref a1)])) rfl rfl (hb hby d1_254)
  have F263 := (((((((((F221.other W222 ne116).other W225 ne138).other W231 ne162).other W235 ne162).other W240 ne63).other W246 ne63).other W249 ne78).other W253 ne78).other W258 ne96)
  obtain ⟨cl262, A262, S262, Nl262, M262⟩ := id F263
  have hin262 : ¬ ((1 : Int32) < 0 ∨ cl262.slots.size ≤ ((1 : Int32)).toNatClampNeg) := AV.inb S262 Nl262 ⟨by decide, by decide⟩
  have hat262 : cl262.slots[((1 : Int32)).toNatClampNeg]? = some (.long (-7 : Int64)) := AV.at S262 rfl
  have F265 := ((((((((V222.other W225 ne148).other W231 ne172).other W235 ne172).other W240 (Ne.symm ne120)).other W246 (Ne.symm ne120)).other W249 (Ne.symm ne122)).other W253 (Ne.symm ne122)).other W258 (Ne.symm ne124))
  obtain ⟨cl264, A264, S264, Nl264, M264⟩ := id F265
  have hin264 : ¬ ((3 : Int32) < 0 ∨ cl264.slots.size ≤ ((3 : Int32)).toNatClampNeg) := AV.inb S264 Nl264 ⟨by decide, by decide⟩
  obtain ⟨T264, h264, X264, e264, W264, st264⟩ := stJ X260 hx hZ e260 A264 (j := (3 : Int32)) hin264 (g := (mkF m 264 #[.val (.ref a1), .val (.int (2 : Int32)), .val (.ref a3), .val (.ref a4), .val (.ref a5), .val (.ref a6), .val (.int (2 : Int32)), .val (.ref b152), .val (.int (1 : Int32)), .val (.int (3 : Int32)), .val (.int (1 : Int32))] [(.long (-7 : Int64)), (.int (3 : Int32)), (.ref b106)])) rfl rfl (hb hby d1_264)
  have V264 : AV Z h264 b106 .long (4 : Int32) [(.long (5 : Int64)), (.long (0 : Int64)), (.long (-5 : Int64)), (.long (-7 : Int64))] := AV.set A264 S264 Nl264 M264 W264
  have K264 : Keep h0 h264 [a1] := K258.wr W264 (Or.inr sz_b106)
  have N264 := Fr.snoc X264 N258 g_b106
  have F267 := (F261.other W264 (Or.inl ne108))
  obtain ⟨T266, X266, e266, st266⟩ := getF X264 hx hZ hown (host := "") (Or.inl (hw _ (List.mem_of_getElem? (i := 23) rfl))) Via.refl e264 F267 (g := (mkF m 266 #[.val (.ref a1), .val (.int (2 : Int32)), .val (.ref a3), .val (.ref a4), .val (.ref a5), .val (.ref a6), .val (.int (2 : Int32)), .val (.ref b152), .val (.int (1 : Int32)), .val (.int (3 : Int32)), .val (.int (1 : Int32))] [(.ref a1)])) rfl rfl (hb hby d1_266)
  have F269 := (F263.other W264 ne116)
  obtain ⟨cl268, A268, S268, Nl268, M268⟩ := id F269
  have hin268 : ¬ ((1 : Int32) < 0 ∨ cl268.slots.size ≤ ((1 : Int32)).toNatClampNeg) := AV.inb S268 Nl268 ⟨by decide, by decide⟩
  have hat268 : cl268.slots[((1 : Int32)).toNatClampNeg]? = some (.long (-7 : Int64)) := AV.at S268 rfl
  obtain ⟨cl270, A270, S270, Nl270, M270⟩ := id V264
  have hin270 : ¬ ((1 : Int32) < 0 ∨ cl270.slots.size ≤ ((1 : Int32)).toNatClampNeg) := AV.inb S270 Nl270 ⟨by decide, by decide⟩
  obtain ⟨T270, h270, X270, e270, W270, st270⟩ := stJ X266 hx hZ e266 A270 (j := (1 : Int32)) hin270 (g := (mkF m 277 #[.val (.ref a1), .val (.int (2 : Int32)), .val (.ref a3), .val (.ref a4), .val (.ref a5), .val (.ref a6), .val (.int (2 : Int32)), .val (.ref b152), .val (.int (1 : Int32)), .val (.int (3 : Int32)), .val (.int (1 : Int32))] [(.long (7 : Int64)), (.int (1 : Int32)), (.ref b106)])) rfl rfl (hb hby d1_277)
  have V270 : AV Z h270 b106 .long (4 : Int32) [(.long (5 : Int64)), (.long (7 : Int64)), (.long (-5 : Int64)), (.long (-7 : Int64))] := AV.set A270 S270 Nl270 M270 W270
  have K270 : Keep h0 h270 [a1] := K264.wr W270 (Or.inr sz_b106)
  have N270 := Fr.snoc X270 N264 g_b106
  have F272 := ((((((((((F224.other W225 (Or.inl ne130)).other W231 (Or.inl ne154)).other W235 (Or.inl ne154)).other W240 (Or.inl ne55)).other W246 (Or.inl ne55)).other W249 (Or.inl ne70)).other W253 (Or.inl ne70)).other W258 (Or.inl ne88)).other W264 (Or.inl ne108)).other W270 (Or.inl ne108))
  obtain ⟨T271, X271, e271, st271⟩ := getF X270 hx hZ hown (host := "") (Or.inl (hw _ (List.mem_of_getElem? (i := 25) rfl))) Via.refl e270 F272 (g := (mkF m 279 #[.val (.ref a1), .val (.int (2 : Int32)), .val (.ref a3), .val (.ref a4), .val (.ref a5), .val (.ref a6), .val (.int (2 : Int32)), .val (.ref b152), .val (.int (1 : Int32)), .val (.int (3 : Int32)), .val (.int (1 : Int32))] [(.ref a1)])) rfl rfl (hb hby d1_279)
  have F274 := (((((((((V225.other W231 ne174).other W235 ne174).other W240 (Ne.symm ne142)).other W246 (Ne.symm ne142)).other W249 (Ne.symm ne144)).other W253 (Ne.symm ne144)).other W258 (Ne.symm ne146)).other W264 (Ne.symm ne148)).other W270 (Ne.symm ne148))
  obtain ⟨cl273, A273, S273, Nl273, M273⟩ := id F274
  have hin273 : ¬ ((1 : Int32) < 0 ∨ cl273.slots.size ≤ ((1 : Int32)).toNatClampNeg) := AV.inb S273 Nl273 ⟨by decide, by decide⟩
  obtain ⟨T273, h273, X273, e273, W273, st273⟩ := stI X271 hx hZ e271 A273 (j := (1 : Int32)) hin273 (g := (mkF m 286 #[.val (.ref a1), .val (.int (2 : Int32)), .val (.ref a3), .val (.ref a4), .val (.ref a5), .val (.ref a6), .val (.int (2 : Int32)), .val (.ref b152), .val (.int (1 : Int32)), .val (.int (3 : Int32)), .val (.int (1 : Int32))] [(.int (3 : Int32)), (.int (1 : Int32)), (.ref b128)])) rfl rfl (hb hby d1_286)
  have V273 : AV Z h273 b128 .int (2 : Int32) [(.int (0 : Int32)), (.int (3 : Int32))] := AV.set A273 S273 Nl273 M273 W273
  have K273 : Keep h0 h273 [a1] := K270.wr W273 (Or.inr sz_b128)
  have N273 := Fr.snoc X273 N270 g_b128
  obtain ⟨fs, hr, hrun, hended, hW, hsame⟩ := X273.leave (v := none) (fun _ => rfl)
  refine ⟨_, _, pre0 _ ?_, hrun, hended, _, _, rfl, ?_, ⟨_, rfl⟩, hW, hsame.mono (by decide) (by decide)⟩
  · show Steps p.tables e below (s₁.setTop (mkF m 0 #[.val (.ref a1), .val (.int (2 : Int32)), .val (.ref a3), .val (.ref a4), .val (.ref a5), .val (.ref a6), .val (.int (2 : Int32)), .unset, .unset, .unset, .unset] [])) _
    refine XS.aloadN X0.here hx rfl (hb hby d1_0) rfl rfl ?_
    show Steps p.tables e below (s₁.setTop (mkF m 1 #[.val (.ref a1), .val (.int (2 : Int32)), .val (.ref a3), .val (.ref a4), .val (.ref a5), .val (.ref a6), .val (.int (2 : Int32)), .unset, .unset, .unset, .unset] [(.ref a1)])) _
    refine st1 _ ?_
    show Steps p.tables e below (T1.setTop (mkF m 4 #[.val (.ref a1), .val (.int (2 : Int32)), .val (.ref a3), .val (.ref a4), .val (.ref a5), .val (.ref a6), .val (.int (2 : Int32)), .unset, .unset, .unset, .unset] [])) _
    refine XS.aloadN X1.here hx rfl (hb hby d1_4) rfl rfl ?_
    show Steps p.tables e below (T1.setTop (mkF m 5 #[.val (.ref a1), .val (.int (2 : Int32)), .val (.ref a3), .val (.ref a4), .val (.ref a5), .val (.ref a6), .val (.int (2 : Int32)), .unset, .unset, .unset, .unset] [(.ref a1)])) _
    refine XS.iloadN X1.here hx rfl (hb hby d1_5) rfl ?_
    show Steps p.tables e below (T1.setTop (mkF m 6 #[.val (.ref a1), .val (.int (2 : Int32)), .val (.ref a3), .val (.ref a4), .val (.ref a5), .val (.ref a6), .val (.int (2 : Int32)), .unset, .unset, .unset, .unset] [(.int (2 : Int32)), (.ref a1)])) _
    refine st2 _ ?_
    show Steps p.tables e below (T2.setTop (mkF m 9 #[.val (.ref a1), .val (.int (2 : Int32)), .val (.ref a3), .val (.ref a4), .val (.ref a5), .val (.ref a6), .val (.int (2 : Int32)), .unset, .unset, .unset, .unset] [])) _
    refine XS.aloadN X2.here hx rfl (hb hby d1_9) rfl rfl ?_
    show Steps p.tables e below (T2.setTop (mkF m 10 #[.val (.ref a1), .val (.int (2 : Int32)), .val (.ref a3), .val (.ref a4), .val (.ref a5), .val (.ref a6), .val (.int (2 : Int32)), .unset, .unset, .unset, .unset] [(.ref a1)])) _
    refine XS.iloadN X2.here hx rfl (hb hby d1_10) rfl ?_
    show Steps p.tables e below (T2.setTop (mkF m 11 #[.val (.ref a1), .val (.int (2 : Int32)), .val (.ref a3), .val (.ref a4), .val (.ref a5), .val (.ref a6), .val (.int (2 : Int32)), .unset, .unset, .unset, .unset] [(.int (2 : Int32)), (.ref a1)])) _
    refine XS.iconst X2.here hx rfl (hb hby d1_11) ?_
    show Steps p.tables e below (T2.setTop (mkF m 12 #[.val (.ref a1), .val (.int (2 : Int32)), .val (.ref a3), .val (.ref a4), .val (.ref a5), .val (.ref a6), .val (.int (2 : Int32)), .unset, .unset, .unset, .unset] [(.int (1 : Int32)), (.int (2 : Int32)), (.ref a1)])) _
    refine XS.iadd X2.here hx rfl (hb hby d1_12) rfl ?_
    show Steps p.tables e below (T2.setTop (mkF m 13 #[.val (.ref a1), .val (.int (2 : Int32)), .val (.ref a3), .val (.ref a4), .val (.ref a5), .val (.ref a6), .val (.int (2 : Int32)), .unset, .unset, .unset, .unset] [(.int (3 : Int32)), (.ref a1)])) _
    refine st3 _ ?_
    show Steps p.tables e below (T3.setTop (mkF m 15 #[.val (.ref a1), .val (.int (2 : Int32)), .val (.ref a3), .val (.ref a4), .val (.ref a5), .val (.ref a6), .val (.int (2 : Int32)), .unset, .unset, .unset, .unset] [(.ref b3), (.ref a1)])) _
    refine st14 _ ?_
    show Steps p.tables e below (T14.setTop (mkF m 18 #[.val (.ref a1), .val (.int (2 : Int32)), .val (.ref a3), .val (.ref a4), .val (.ref a5), .val (.ref a6), .val (.int (2 : Int32)), .unset, .unset, .unset, .unset] [])) _
    refine XS.iconst X14.here hx rfl (hb hby d1_18) ?_
    show Steps p.tables e below (T14.setTop (mkF m 19 #[.val (.ref a1), .val (.int (2 : Int32)), .val (.ref a3), .val (.ref a4), .val (.ref a5), .val (.ref a6), .val (.int (2 : Int32)), .unset, .unset, .unset, .unset] [(.int (0 : Int32))])) _
    refine XS.istore X14.here hx rfl (hb hby d1_19) rfl (l' := #[.val (.ref a1), .val (.int (2 : Int32)), .val (.ref a3), .val (.ref a4), .val (.ref a5), .val (.ref a6), .val (.int (2 : Int32)), .val (.int (0 : Int32)), .unset, .unset, .unset]) rfl ?_
    show Steps p.tables e below (T14.setTop (mkF m 21 #[.val (.ref a1), .val (.int (2 : Int32)), .val (.ref a3), .val (.ref a4), .val (.ref a5), .val (.ref a6), .val (.int (2 : Int32)), .val (.int (0 : Int32)), .unset, .unset, .unset] [])) _
    refine XS.iload X14.here hx rfl (hb hby d1_21) rfl ?_
    show Steps p.tables e below (T14.setTop (mkF m 23 #[.val (.ref a1), .val (.int (2 : Int32)), .val (.ref a3), .val (.ref a4), .val (.ref a5), .val (.ref a6), .val (.int (2 : Int32)), .val (.int (0 : Int32)), .unset, .unset, .unset] [(.int (0 : Int32))])) _
    refine XS.iload X14.here hx rfl (hb hby d1_23) rfl ?_
    show Steps p.tables e below (T14.setTop (mkF m 25 #[.val (.ref a1), .val (.int (2 : Int32)), .val (.ref a3), .val (.ref a4), .val (.ref a5), .val (.ref a6), .val (.int (2 : Int32)), .val (.int (0 : Int32)), .unset, .unset, .unset] [(.int (2 : Int32)), (.int (0 : Int32))])) _
    refine XS.icmpNo X14.here hx rfl (hb hby d1_25) rfl (tlt (by decide : (0 : Int32) < (2 : Int32))).2.1 ?_
    show Steps p.tables e below (T14.setTop (mkF m 28 #[.val (.ref a1), .val (.int (2 : Int32)), .val (.ref a3), .val (.ref a4), .val (.ref a5), .val (.ref a6), .val (.int (2 : Int32)), .val (.int (0 : Int32)), .unset, .unset, .unset] [])) _
    refine XS.aloadN X14.here hx rfl (hb hby d1_28) rfl rfl ?_
    show Steps p.tables e below (T14.setTop (mkF m 29 #[.val (.ref a1), .val (.int (2 : Int32)), .val (.ref a3), .val (.ref a4), .val (.ref a5), .val (.ref a6), .val (.int (2 : Int32)), .val (.int (0 : Int32)), .unset, .unset, .unset] [(.ref a1)])) _
    refine st17 _ ?_
    show Steps p.tables e below (T17.setTop (mkF m 32 #[.val (.ref a1), .val (.int (2 : Int32)), .val (.ref a3), .val (.ref a4), .val (.ref a5), .val (.ref a6), .val (.int (2 : Int32)), .val (.int (0 : Int32)), .unset, .unset, .unset] [(.ref b3)])) _
    refine XS.aloadN X17.here hx rfl (hb hby d1_32) rfl rfl ?_
    show Steps p.tables e below (T17.setTop (mkF m 33 #[.val (.ref a1), .val (.int (2 : Int32)), .val (.ref a3), .val (.ref a4), .val (.ref a5), .val (.ref a6), .val (.int (2 : Int32)), .val (.int (0 : Int32)), .unset, .unset, .unset] [(.ref a3), (.ref b3)])) _
    refine XS.iload X17.here hx rfl (hb hby d1_33) rfl ?_
    show Steps p.tables e below (T17.setTop (mkF m 35 #[.val (.ref a1), .val (.int (2 : Int32)), .val (.ref a3), .val (.ref a4), .val (.ref a5), .val (.ref a6), .val (.int (2 : Int32)), .val (.int (0 : Int32)), .unset, .unset, .unset] [(.int (0 : Int32)), (.ref a3), (.ref b3)])) _
    refine X17.iaload hx (j := (0 : Int32)) (v := (.int (0 : Int32))) (by rw [e17]; exact A18.1) (State.isArrayOf_alike hZ.alike A18.2.1) A18.2.2 hin18 hat18 (g := (mkF m 35 #[.val (.ref a1), .val (.int (2 : Int32)), .val (.ref a3), .val (.ref a4), .val (.ref a5), .val (.ref a6), .val (.int (2 : Int32)), .val (.int (0 : Int32)), .unset, .unset, .unset] [(.int (0 : Int32)), (.ref a3), (.ref b3)])) rfl rfl (hb hby d1_35) _ ?_
    show Steps p.tables e below (T17.setTop (mkF m 36 #[.val (.ref a1), .val (.int (2 : Int32)), .val (.ref a3), .val (.ref a4), .val (.ref a5), .val (.ref a6), .val (.int (2 : Int32)), .val (.int (0 : Int32)), .unset, .unset, .unset] [(.int (0 : Int32)), (.ref b3)])) _
    refine XS.iconst X17.here hx rfl (hb hby d1_36) ?_
    show Steps p.tables e below (T17.setTop (mkF m 37 #[.val (.ref a1), .val (.int (2 : Int32)), .val (.ref a3), .val (.ref a4), .val (.ref a5), .val (.ref a6), .val (.int (2 : Int32)), .val (.int (0 : Int32)), .unset, .unset, .unset] [(.int (1 : Int32)), (.int (0 : Int32)), (.ref b3)])) _
    refine XS.iadd X17.here hx rfl (hb hby d1_37) rfl ?_
    show Steps p.tables e below (T17.setTop (mkF m 38 #[.val (.ref a1), .val (.int (2 : Int32)), .val (.ref a3), .val (.ref a4), .val (.ref a5), .val (.ref a6), .val (.int (2 : Int32)), .val (.int (0 : Int32)), .unset, .unset, .unset] [(.int (1 : Int32)), (.ref b3)])) _
    jvm_step X17.here [X17.here.top, hx, (hb hby d1_38), Value.category]
    show Steps p.tables e below (T17.setTop (mkF m 39 #[.val (.ref a1), .val (.int (2 : Int32)), .val (.ref a3), .val (.ref a4), .val (.ref a5), .val (.ref a6), .val (.int (2 : Int32)), .val (.int (0 : Int32)), .unset, .unset, .unset] [(.int (1 : Int32)), (.ref b3), (.int (1 : Int32)), (.ref b3)])) _
    refine X17.iaload hx (j := (1 : Int32)) (v := (.int (0 : Int32))) (by rw [e17]; exact A20.1) (State.isArrayOf_alike hZ.alike A20.2.1) A20.2.2 hin20 hat20 (g := (mkF m 39 #[.val (.ref a1), .val (.int (2 : Int32)), .val (.ref a3), .val (.ref a4), .val (.ref a5), .val (.ref a6), .val (.int (2 : Int32)), .val (.int (0 : Int32)), .unset, .unset, .unset] [(.int (1 : Int32)), (.ref b3), (.int (1 : Int32)), (.ref b3)])) rfl rfl (hb hby d1_39) _ ?_
    show Steps p.tables e below (T17.setTop (mkF m 40 #[.val (.ref a1), .val (.int (2 : Int32)), .val (.ref a3), .val (.ref a4), .val (.ref a5), .val (.ref a6), .val (.int (2 : Int32)), .val (.int (0 : Int32)), .unset, .unset, .unset] [(.int (0 : Int32)), (.int (1 : Int32)), (.ref b3)])) _
    refine XS.iconst X17.here hx rfl (hb hby d1_40) ?_
    show Steps p.tables e below (T17.setTop (mkF m 41 #[.val (.ref a1), .val (.int (2 : Int32)), .val (.ref a3), .val (.ref a4), .val (.ref a5), .val (.ref a6), .val (.int (2 : Int32)), .val (.int (0 : Int32)), .unset, .unset, .unset] [(.int (1 : Int32)), (.int (0 : Int32)), (.int (1 : Int32)), (.ref b3)])) _
    refine XS.iadd X17.here hx rfl (hb hby d1_41) rfl ?_
    show Steps p.tables e below (T17.setTop (mkF m 42 #[.val (.ref a1), .val (.int (2 : Int32)), .val (.ref a3), .val (.ref a4), .val (.ref a5), .val (.ref a6), .val (.int (2 : Int32)), .val (.int (0 : Int32)), .unset, .unset, .unset] [(.int (1 : Int32)), (.int (1 : Int32)), (.ref b3)])) _
    refine st22 _ ?_
    show Steps p.tables e below (T22.setTop (mkF m 43 #[.val (.ref a1), .val (.int (2 : Int32)), .val (.ref a3), .val (.ref a4), .val (.ref a5), .val (.ref a6), .val (.int (2 : Int32)), .val (.int (0 : Int32)), .unset, .unset, .unset] [])) _
    refine XS.aloadN X22.here hx rfl (hb hby d1_43) rfl rfl ?_
    show Steps p.tables e below (T22.setTop (mkF m 44 #[.val (.ref a1), .val (.int (2 : Int32)), .val (.ref a3), .val (.ref a4), .val (.ref a5), .val (.ref a6), .val (.int (2 : Int32)), .val (.int (0 : Int32)), .unset, .unset, .unset] [(.ref a1)])) _
    refine st23 _ ?_
    show Steps p.tables e below (T23.setTop (mkF m 47 #[.val (.ref a1), .val (.int (2 : Int32)), .val (.ref a3), .val (.ref a4), .val (.ref a5), .val (.ref a6), .val (.int (2 : Int32)), .val (.int (0 : Int32)), .unset, .unset, .unset] [(.ref b3)])) _
    refine XS.aloadN X23.here hx rfl (hb hby d1_47) rfl rfl ?_
    show Steps p.tables e below (T23.setTop (mkF m 48 #[.val (.ref a1), .val (.int (2 : Int32)), .val (.ref a3), .val (.ref a4), .val (.ref a5), .val (.ref a6), .val (.int (2 : Int32)), .val (.int (0 : Int32)), .unset, .unset, .unset] [(.ref a4), (.ref b3)])) _
    refine XS.iload X23.here hx rfl (hb hby d1_48) rfl ?_
    show Steps p.tables e below (T23.setTop (mkF m 50 #[.val (.ref a1), .val (.int (2 : Int32)), .val (.ref a3), .val (.ref a4), .val (.ref a5), .val (.ref a6), .val (.int (2 : Int32)), .val (.int (0 : Int32)), .unset, .unset, .unset] [(.int (0 : Int32)), (.ref a4), (.ref b3)])) _
    refine X23.iaload hx (j := (0 : Int32)) (v := (.int (1 : Int32))) (by rw [e23]; exact A25.1) (State.isArrayOf_alike hZ.alike A25.2.1) A25.2.2 hin25 hat25 (g := (mkF m 50 #[.val (.ref a1), .val (.int (2 : Int32)), .val (.ref a3), .val (.ref a4), .val (.ref a5), .val (.ref a6), .val (.int (2 : Int32)), .val (.int (0 : Int32)), .unset, .unset, .unset] [(.int (0 : Int32)), (.ref a4), (.ref b3)])) rfl rfl (hb hby d1_50) _ ?_
    show Steps p.tables e below (T23.setTop (mkF m 51 #[.val (.ref a1), .val (.int (2 : Int32)), .val (.ref a3), .val (.ref a4), .val (.ref a5), .val (.ref a6), .val (.int (2 : Int32)), .val (.int (0 : Int32)), .unset, .unset, .unset] [(.int (1 : Int32)), (.ref b3)])) _
    refine XS.iconst X23.here hx rfl (hb hby d1_51) ?_
    show Steps p.tables e below (T23.setTop (mkF m 52 #[.val (.ref a1), .val (.int (2 : Int32)), .val (.ref a3), .val (.ref a4), .val (.ref a5), .val (.ref a6), .val (.int (2 : Int32)), .val (.int (0 : Int32)), .unset, .unset, .unset] [(.int (1 : Int32)), (.int (1 : Int32)), (.ref b3)])) _
    refine XS.iadd X23.here hx rfl (hb hby d1_52) rfl ?_
    show Steps p.tables e below (T23.setTop (mkF m 53 #[.val (.ref a1), .val (.int (2 : Int32)), .val (.ref a3), .val (.ref a4), .val (.ref a5), .val (.ref a6), .val (.int (2 : Int32)), .val (.int (0 : Int32)), .unset, .unset, .unset] [(.int (2 : Int32)), (.ref b3)])) _
    jvm_step X23.here [X23.here.top, hx, (hb hby d1_53), Value.category]
    show Steps p.tables e below (T23.setTop (mkF m 54 #[.val (.ref a1), .val (.int (2 : Int32)), .val (.ref a3), .val (.ref a4), .val (.ref a5), .val (.ref a6), .val (.int (2 : Int32)), .val (.int (0 : Int32)), .unset, .unset, .unset] [(.int (2 : Int32)), (.ref b3), (.int (2 : Int32)), (.ref b3)])) _
    refine X23.iaload hx (j := (2 : Int32)) (v := (.int (0 : Int32))) (by rw [e23]; exact A27.1) (State.isArrayOf_alike hZ.alike A27.2.1) A27.2.2 hin27 hat27 (g := (mkF m 54 #[.val (.ref a1), .val (.int (2 : Int32)), .val (.ref a3), .val (.ref a4), .val (.ref a5), .val (.ref a6), .val (.int (2 : Int32)), .val (.int (0 : Int32)), .unset, .unset, .unset] [(.int (2 : Int32)), (.ref b3), (.int (2 : Int32)), (.ref b3)])) rfl rfl (hb hby d1_54) _ ?_
    show Steps p.tables e below (T23.setTop (mkF m 55 #[.val (.ref a1), .val (.int (2 : Int32)), .val (.ref a3), .val (.ref a4), .val (.ref a5), .val (.ref a6), .val (.int (2 : Int32)), .val (.int (0 : Int32)), .unset, .unset, .unset] [(.int (0 : Int32)), (.int (2 : Int32)), (.ref b3)])) _
    refine XS.iconst X23.here hx rfl (hb hby d1_55) ?_
    show Steps p.tables e below (T23.setTop (mkF m 56 #[.val (.ref a1), .val (.int (2 : Int32)), .val (.ref a3), .val (.ref a4), .val (.ref a5), .val (.ref a6), .val (.int (2 : Int32)), .val (.int (0 : Int32)), .unset, .unset, .unset] [(.int (1 : Int32)), (.int (0 : Int32)), (.int (2 : Int32)), (.ref b3)])) _
    refine XS.iadd X23.here hx rfl (hb hby d1_56) rfl ?_
    show Steps p.tables e below (T23.setTop (mkF m 57 #[.val (.ref a1), .val (.int (2 : Int32)), .val (.ref a3), .val (.ref a4), .val (.ref a5), .val (.ref a6), .val (.int (2 : Int32)), .val (.int (0 : Int32)), .unset, .unset, .unset] [(.int (1 : Int32)), (.int (2 : Int32)), (.ref b3)])) _
    refine st28 _ ?_
    show Steps p.tables e below (T28.setTop (mkF m 58 #[.val (.ref a1), .val (.int (2 : Int32)), .val (.ref a3), .val (.ref a4), .val (.ref a5), .val (.ref a6), .val (.int (2 : Int32)), .val (.int (0 : Int32)), .unset, .unset, .unset] [])) _
    refine XS.iinc X28.here hx rfl (hb hby d1_58) rfl (l' := #[.val (.ref a1), .val (.int (2 : Int32)), .val (.ref a3), .val (.ref a4), .val (.ref a5), .val (.ref a6), .val (.int (2 : Int32)), .val (.int (1 : Int32)), .unset, .unset, .unset]) rfl ?_
    show Steps p.tables e below (T28.setTop (mkF m 61 #[.val (.ref a1), .val (.int (2 : Int32)), .val (.ref a3), .val (.ref a4), .val (.ref a5), .val (.ref a6), .val (.int (2 : Int32)), .val (.int (1 : Int32)), .unset, .unset, .unset] [])) _
    refine XS.goto X28.here hx rfl (pc0 := 61) (pc' := 21) rfl (hb hby d1_61) (by decide) (by decide) ?_
    show Steps p.tables e below (T28.setTop (mkF m 21 #[.val (.ref a1), .val (.int (2 : Int32)), .val (.ref a3), .val (.ref a4), .val (.ref a5), .val (.ref a6), .val (.int (2 : Int32)), .val (.int (1 : Int32)), .unset, .unset, .unset] [])) _
    refine XS.iload X28.here hx rfl (hb hby d1_21) rfl ?_
    show Steps p.tables e below (T28.setTop (mkF m 23 #[.val (.ref a1), .val (.int (2 : Int32)), .val (.ref a3), .val (.ref a4), .val (.ref a5), .val (.ref a6), .val (.int (2 : Int32)), .val (.int (1 : Int32)), .unset, .unset, .unset] [(.int (1 : Int32))])) _
    refine XS.iload X28.here hx rfl (hb hby d1_23) rfl ?_
    show Steps p.tables e below (T28.setTop (mkF m 25 #[.val (.ref a1), .val (.int (2 : Int32)), .val (.ref a3), .val (.ref a4), .val (.ref a5), .val (.ref a6), .val (.int (2 : Int32)), .val (.int (1 : Int32)), .unset, .unset, .unset] [(.int (2 : Int32)), (.int (1 : Int32))])) _
    refine XS.icmpNo X28.here hx rfl (hb hby d1_25) rfl (tlt (by decide : (1 : Int32) < (2 : Int32))).2.1 ?_
    show Steps p.tables e below (T28.setTop (mkF m 28 #[.val (.ref a1), .val (.int (2 : Int32)), .val (.ref a3), .val (.ref a4), .val (.ref a5), .val (.ref a6), .val (.int (2 : Int32)), .val (.int (1 : Int32)), .unset, .unset, .unset] [])) _
    refine XS.aloadN X28.here hx rfl (hb hby d1_28) rfl rfl ?_
    show Steps p.tables e below (T28.setTop (mkF m 29 #[.val (.ref a1), .val (.int (2 : Int32)), .val (.ref a3), .val (.ref a4), .val (.ref a5), .val (.ref a6), .val (.int (2 : Int32)), .val (.int (1 : Int32)), .unset, .unset, .unset] [(.ref a1)])) _
    refine st29 _ ?_
    show Steps p.tables e below (T29.setTop (mkF m 32 #[.val (.ref a1), .val (.int (2 : Int32)), .val (.ref a3), .val (.ref a4), .val (.ref a5), .val (.ref a6), .val (.int (2 : Int32)), .val (.int (1 : Int32)), .unset, .unset, .unset] [(.ref b3)])) _
    refine XS.aloadN X29.here hx rfl (hb hby d1_32) rfl rfl ?_
    show Steps p.tables e below (T29.setTop (mkF m 33 #[.val (.ref a1), .val (.int (2 : Int32)), .val (.ref a3), .val (.ref a4), .val (.ref a5), .val (.ref a6), .val (.int (2 : Int32)), .val (.int (1 : Int32)), .unset, .unset, .unset] [(.ref a3), (.ref b3)])) _
    refine XS.iload X29.here hx rfl (hb hby d1_33) rfl ?_
    show Steps p.tables e below (T29.setTop (mkF m 35 #[.val (.ref a1), .val (.int (2 : Int32)), .val (.ref a3), .val (.ref a4), .val (.ref a5), .val (.ref a6), .val (.int (2 : Int32)), .val (.int (1 : Int32)), .unset, .unset, .unset] [(.int (1 : Int32)), (.ref a3), (.ref b3)])) _
    refine X29.iaload hx (j := (1 : Int32)) (v := (.int (1 : Int32))) (by rw [e29]; exact A31.1) (State.isArrayOf_alike hZ.alike A31.2.1) A31.2.2 hin31 hat31 (g := (mkF m 35 #[.val (.ref a1), .val (.int (2 : Int32)), .val (.ref a3), .val (.ref a4), .val (.ref a5), .val (.ref a6), .val (.int (2 : Int32)), .val (.int (1 : Int32)), .unset, .unset, .unset] [(.int (1 : Int32)), (.ref a3), (.ref b3)])) rfl rfl (hb hby d1_35) _ ?_
    show Steps p.tables e below (T29.setTop (mkF m 36 #[.val (.ref a1), .val (.int (2 : Int32)), .val (.ref a3), .val (.ref a4), .val (.ref a5), .val (.ref a6), .val (.int (2 : Int32)), .val (.int (1 : Int32)), .unset, .unset, .unset] [(.int (1 : Int32)), (.ref b3)])) _
    refine XS.iconst X29.here hx rfl (hb hby d1_36) ?_
    show Steps p.tables e below (T29.setTop (mkF m 37 #[.val (.ref a1), .val (.int (2 : Int32)), .val (.ref a3), .val (.ref a4), .val (.ref a5), .val (.ref a6), .val (.int (2 : Int32)), .val (.int (1 : Int32)), .unset, .unset, .unset] [(.int (1 : Int32)), (.int (1 : Int32)), (.ref b3)])) _
    refine XS.iadd X29.here hx rfl (hb hby d1_37) rfl ?_
    show Steps p.tables e below (T29.setTop (mkF m 38 #[.val (.ref a1), .val (.int (2 : Int32)), .val (.ref a3), .val (.ref a4), .val (.ref a5), .val (.ref a6), .val (.int (2 : Int32)), .val (.int (1 : Int32)), .unset, .unset, .unset] [(.int (2 : Int32)), (.ref b3)])) _
    jvm_step X29.here [X29.here.top, hx, (hb hby d1_38), Value.category]
    show Steps p.tables e below (T29.setTop (mkF m 39 #[.val (.ref a1), .val (.int (2 : Int32)), .val (.ref a3), .val (.ref a4), .val (.ref a5), .val (.ref a6), .val (.int (2 : Int32)), .val (.int (1 : Int32)), .unset, .unset, .unset] [(.int (2 : Int32)), (.ref b3), (.int (2 : Int32)), (.ref b3)])) _
    refine X29.iaload hx (j := (2 : Int32)) (v := (.int (1 : Int32))) (by rw [e29]; exact A33.1) (State.isArrayOf_alike hZ.alike A33.2.1) A33.2.2 hin33 hat33 (g := (mkF m 39 #[.val (.ref a1), .val (.int (2 : Int32)), .val (.ref a3), .val (.ref a4), .val (.ref a5), .val (.ref a6), .val (.int (2 : Int32)), .val (.int (1 : Int32)), .unset, .unset, .unset] [(.int (2 : Int32)), (.ref b3), (.int (2 : Int32)), (.ref b3)])) rfl rfl (hb hby d1_39) _ ?_
    show Steps p.tables e below (T29.setTop (mkF m 40 #[.val (.ref a1), .val (.int (2 : Int32)), .val (.ref a3), .val (.ref a4), .val (.ref a5), .val (.ref a6), .val (.int (2 : Int32)), .val (.int (1 : Int32)), .unset, .unset, .unset] [(.int (1 : Int32)), (.int (2 : Int32)), (.ref b3)])) _
    refine XS.iconst X29.here hx rfl (hb hby d1_40) ?_
    show Steps p.tables e below (T29.setTop (mkF m 41 #[.val (.ref a1), .val (.int (2 : Int32)), .val (.ref a3), .val (.ref a4), .val (.ref a5), .val (.ref a6), .val (.int (2 : Int32)), .val (.int (1 : Int32)), .unset, .unset, .unset] [(.int (1 : Int32)), (.int (1 : Int32)), (.int (2 : Int32)), (.ref b3)])) _
    refine XS.iadd X29.here hx rfl (hb hby d1_41) rfl ?_
    show Steps p.tables e below (T29.setTop (mkF m 42 #[.val (.ref a1), .val (.int (2 : Int32)), .val (.ref a3), .val (.ref a4), .val (.ref a5), .val (.ref a6), .val (.int (2 : Int32)), .val (.int (1 : Int32)), .unset, .unset, .unset] [(.int (2 : Int32)), (.int (2 : Int32)), (.ref b3)])) _
    refine st34 _ ?_
    show Steps p.tables e below (T34.setTop (mkF m 43 #[.val (.ref a1), .val (.int (2 : Int32)), .val (.ref a3), .val (.ref a4), .val (.ref a5), .val (.ref a6), .val (.int (2 : Int32)), .val (.int (1 : Int32)), .unset, .unset, .unset] [])) _
    refine XS.aloadN X34.here hx rfl (hb hby d1_43) rfl rfl ?_
    show Steps p.tables e below (T34.setTop (mkF m 44 #[.val (.ref a1), .val (.int (2 : Int32)), .val (.ref a3), .val (.ref a4), .val (.ref a5), .val (.ref a6), .val (.int (2 : Int32)), .val (.int (1 : Int32)), .unset, .unset, .unset] [(.ref a1)])) _
    refine st35 _ ?_
    show Steps p.tables e below (T35.setTop (mkF m 47 #[.val (.ref a1), .val (.int (2 : Int32)), .val (.ref a3), .val (.ref a4), .val (.ref a5), .val (.ref a6), .val (.int (2 : Int32)), .val (.int (1 : Int32)), .unset, .unset, .unset] [(.ref b3)])) _
    refine XS.aloadN X35.here hx rfl (hb hby d1_47) rfl rfl ?_
    show Steps p.tables e below (T35.setTop (mkF m 48 #[.val (.ref a1), .val (.int (2 : Int32)), .val (.ref a3), .val (.ref a4), .val (.ref a5), .val (.ref a6), .val (.int (2 : Int32)), .val (.int (1 : Int32)), .unset, .unset, .unset] [(.ref a4), (.ref b3)])) _
    refine XS.iload X35.here hx rfl (hb hby d1_48) rfl ?_
    show Steps p.tables e below (T35.setTop (mkF m 50 #[.val (.ref a1), .val (.int (2 : Int32)), .val (.ref a3), .val (.ref a4), .val (.ref a5), .val (.ref a6), .val (.int (2 : Int32)), .val (.int (1 : Int32)), .unset, .unset, .unset] [(.int (1 : Int32)), (.ref a4), (.ref b3)])) _
    refine X35.iaload hx (j := (1 : Int32)) (v := (.int (0 : Int32))) (by rw [e35]; exact A37.1) (State.isArrayOf_alike hZ.alike A37.2.1) A37.2.2 hin37 hat37 (g := (mkF m 50 #[.val (.ref a1), .val (.int (2 : Int32)), .val (.ref a3), .val (.ref a4), .val (.ref a5), .val (.ref a6), .val (.int (2 : Int32)), .val (.int (1 : Int32)), .unset, .unset, .unset] [(.int (1 : Int32)), (.ref a4), (.ref b3)])) rfl rfl (hb hby d1_50) _ ?_
    show Steps p.tables e below (T35.setTop (mkF m 51 #[.val (.ref a1), .val (.int (2 : Int32)), .val (.ref a3), .val (.ref a4), .val (.ref a5), .val (.ref a6), .val (.int (2 : Int32)), .val (.int (1 : Int32)), .unset, .unset, .unset] [(.int (0 : Int32)), (.ref b3)])) _
    refine XS.iconst X35.here hx rfl (hb hby d1_51) ?_
    show Steps p.tables e below (T35.setTop (mkF m 52 #[.val (.ref a1), .val (.int (2 : Int32)), .val (.ref a3), .val (.ref a4), .val (.ref a5), .val (.ref a6), .val (.int (2 : Int32)), .val (.int (1 : Int32)), .unset, .unset, .unset] [(.int (1 : Int32)), (.int (0 : Int32)), (.ref b3)])) _
    refine XS.iadd X35.here hx rfl (hb hby d1_52) rfl ?_
    show Steps p.tables e below (T35.setTop (mkF m 53 #[.val (.ref a1), .val (.int (2 : Int32)), .val (.ref a3), .val (.ref a4), .val (.ref a5), .val (.ref a6), .val (.int (2 : Int32)), .val (.int (1 : Int32)), .unset, .unset, .unset] [(.int (1 : Int32)), (.ref b3)])) _
    jvm_step X35.here [X35.here.top, hx, (hb hby d1_53), Value.category]
    show Steps p.tables e below (T35.setTop (mkF m 54 #[.val (.ref a1), .val (.int (2 : Int32)), .val (.ref a3), .val (.ref a4), .val (.ref a5), .val (.ref a6), .val (.int (2 : Int32)), .val (.int (1 : Int32)), .unset, .unset, .unset] [(.int (1 : Int32)), (.ref b3), (.int (1 : Int32)), (.ref b3)])) _
    refine X35.iaload hx (j := (1 : Int32)) (v := (.int (1 : Int32))) (by rw [e35]; exact A39.1) (State.isArrayOf_alike hZ.alike A39.2.1) A39.2.2 hin39 hat39 (g := (mkF m 54 #[.val (.ref a1), .val (.int (2 : Int32)), .val (.ref a3), .val (.ref a4), .val (.ref a5), .val (.ref a6), .val (.int (2 : Int32)), .val (.int (1 : Int32)), .unset, .unset, .unset] [(.int (1 : Int32)), (.ref b3), (.int (1 : Int32)), (.ref b3)])) rfl rfl (hb hby d1_54) _ ?_
    show Steps p.tables e below (T35.setTop (mkF m 55 #[.val (.ref a1), .val (.int (2 : Int32)), .val (.ref a3), .val (.ref a4), .val (.ref a5), .val (.ref a6), .val (.int (2 : Int32)), .val (.int (1 : Int32)), .unset, .unset, .unset] [(.int (1 : Int32)), (.int (1 : Int32)), (.ref b3)])) _
    refine XS.iconst X35.here hx rfl (hb hby d1_55) ?_
    show Steps p.tables e below (T35.setTop (mkF m 56 #[.val (.ref a1), .val (.int (2 : Int32)), .val (.ref a3), .val (.ref a4), .val (.ref a5), .val (.ref a6), .val (.int (2 : Int32)), .val (.int (1 : Int32)), .unset, .unset, .unset] [(.int (1 : Int32)), (.int (1 : Int32)), (.int (1 : Int32)), (.ref b3)])) _
    refine XS.iadd X35.here hx rfl (hb hby d1_56) rfl ?_
    show Steps p.tables e below (T35.setTop (mkF m 57 #[.val (.ref a1), .val (.int (2 : Int32)), .val (.ref a3), .val (.ref a4), .val (.ref a5), .val (.ref a6), .val (.int (2 : Int32)), .val (.int (1 : Int32)), .unset, .unset, .unset] [(.int (2 : Int32)), (.int (1 : Int32)), (.ref b3)])) _
    refine st40 _ ?_
    show Steps p.tables e below (T40.setTop (mkF m 58 #[.val (.ref a1), .val (.int (2 : Int32)), .val (.ref a3), .val (.ref a4), .val (.ref a5), .val (.ref a6), .val (.int (2 : Int32)), .val (.int (1 : Int32)), .unset, .unset, .unset] [])) _
    refine XS.iinc X40.here hx rfl (hb hby d1_58) rfl (l' := #[.val (.ref a1), .val (.int (2 : Int32)), .val (.ref a3), .val (.ref a4), .val (.ref a5), .val (.ref a6), .val (.int (2 : Int32)), .val (.int (2 : Int32)), .unset, .unset, .unset]) rfl ?_
    show Steps p.tables e below (T40.setTop (mkF m 61 #[.val (.ref a1), .val (.int (2 : Int32)), .val (.ref a3), .val (.ref a4), .val (.ref a5), .val (.ref a6), .val (.int (2 : Int32)), .val (.int (2 : Int32)), .unset, .unset, .unset] [])) _
    refine XS.goto X40.here hx rfl (pc0 := 61) (pc' := 21) rfl (hb hby d1_61) (by decide) (by decide) ?_
    show Steps p.tables e below (T40.setTop (mkF m 21 #[.val (.ref a1), .val (.int (2 : Int32)), .val (.ref a3), .val (.ref a4), .val (.ref a5), .val (.ref a6), .val (.int (2 : Int32)), .val (.int (2 : Int32)), .unset, .unset, .unset] [])) _
    refine XS.iload X40.here hx rfl (hb hby d1_21) rfl ?_
    show Steps p.tables e below (T40.setTop (mkF m 23 #[.val (.ref a1), .val (.int (2 : Int32)), .val (.ref a3), .val (.ref a4), .val (.ref a5), .val (.ref a6), .val (.int (2 : Int32)), .val (.int (2 : Int32)), .unset, .unset, .unset] [(.int (2 : Int32))])) _
    refine XS.iload X40.here hx rfl (hb hby d1_23) rfl ?_
    show Steps p.tables e below (T40.setTop (mkF m 25 #[.val (.ref a1), .val (.int (2 : Int32)), .val (.ref a3), .val (.ref a4), .val (.ref a5), .val (.ref a6), .val (.int (2 : Int32)), .val (.int (2 : Int32)), .unset, .unset, .unset] [(.int (2 : Int32)), (.int (2 : Int32))])) _
    refine XS.icmpYes X40.here hx rfl (pc0 := 25) (pc' := 64) rfl (hb hby d1_25) rfl (flt (by decide : ¬ ((2 : Int32) < (2 : Int32)))).2.1 (by decide) (by decide) ?_
    show Steps p.tables e below (T40.setTop (mkF m 64 #[.val (.ref a1), .val (.int (2 : Int32)), .val (.ref a3), .val (.ref a4), .val (.ref a5), .val (.ref a6), .val (.int (2 : Int32)), .val (.int (2 : Int32)), .unset, .unset, .unset] [])) _
    refine XS.iconst X40.here hx rfl (hb hby d1_64) ?_
    show Steps p.tables e below (T40.setTop (mkF m 65 #[.val (.ref a1), .val (.int (2 : Int32)), .val (.ref a3), .val (.ref a4), .val (.ref a5), .val (.ref a6), .val (.int (2 : Int32)), .val (.int (2 : Int32)), .unset, .unset, .unset] [(.int (0 : Int32))])) _
    refine XS.istore X40.here hx rfl (hb hby d1_65) rfl (l' := #[.val (.ref a1), .val (.int (2 : Int32)), .val (.ref a3), .val (.ref a4), .val (.ref a5), .val (.ref a6), .val (.int (2 : Int32)), .val (.int (0 : Int32)), .unset, .unset, .unset]) rfl ?_
    show Steps p.tables e below (T40.setTop (mkF m 67 #[.val (.ref a1), .val (.int (2 : Int32)), .val (.ref a3), .val (.ref a4), .val (.ref a5), .val (.ref a6), .val (.int (2 : Int32)), .val (.int (0 : Int32)), .unset, .unset, .unset] [])) _
    refine XS.iload X40.here hx rfl (hb hby d1_67) rfl ?_
    show Steps p.tables e below (T40.setTop (mkF m 69 #[.val (.ref a1), .val (.int (2 : Int32)), .val (.ref a3), .val (.ref a4), .val (.ref a5), .val (.ref a6), .val (.int (2 : Int32)), .val (.int (0 : Int32)), .unset, .unset, .unset] [(.int (0 : Int32))])) _
    refine XS.iloadN X40.here hx rfl (hb hby d1_69) rfl ?_
    show Steps p.tables e below (T40.setTop (mkF m 70 #[.val (.ref a1), .val (.int (2 : Int32)), .val (.ref a3), .val (.ref a4), .val (.ref a5), .val (.ref a6), .val (.int (2 : Int32)), .val (.int (0 : Int32)), .unset, .unset, .unset] [(.int (2 : Int32)), (.int (0 : Int32))])) _
    refine XS.icmpNo X40.here hx rfl (hb hby d1_70) rfl (tlt (by decide : (0 : Int32) < (2 : Int32))).2.1 ?_
    show Steps p.tables e below (T40.setTop (mkF m 73 #[.val (.ref a1), .val (.int (2 : Int32)), .val (.ref a3), .val (.ref a4), .val (.ref a5), .val (.ref a6), .val (.int (2 : Int32)), .val (.int (0 : Int32)), .unset, .unset, .unset] [])) _
    refine XS.aloadN X40.here hx rfl (hb hby d1_73) rfl rfl ?_
    show Steps p.tables e below (T40.setTop (mkF m 74 #[.val (.ref a1), .val (.int (2 : Int32)), .val (.ref a3), .val (.ref a4), .val (.ref a5), .val (.ref a6), .val (.int (2 : Int32)), .val (.int (0 : Int32)), .unset, .unset, .unset] [(.ref a1)])) _
    refine st41 _ ?_
    show Steps p.tables e below (T41.setTop (mkF m 77 #[.val (.ref a1), .val (.int (2 : Int32)), .val (.ref a3), .val (.ref a4), .val (.ref a5), .val (.ref a6), .val (.int (2 : Int32)), .val (.int (0 : Int32)), .unset, .unset, .unset] [(.ref b3)])) _
    refine XS.iload X41.here hx rfl (hb hby d1_77) rfl ?_
    show Steps p.tables e below (T41.setTop (mkF m 79 #[.val (.ref a1), .val (.int (2 : Int32)), .val (.ref a3), .val (.ref a4), .val (.ref a5), .val (.ref a6), .val (.int (2 : Int32)), .val (.int (0 : Int32)), .unset, .unset, .unset] [(.int (0 : Int32)), (.ref b3)])) _
    refine XS.iconst X41.here hx rfl (hb hby d1_79) ?_
    show Steps p.tables e below (T41.setTop (mkF m 80 #[.val (.ref a1), .val (.int (2 : Int32)), .val (.ref a3), .val (.ref a4), .val (.ref a5), .val (.ref a6), .val (.int (2 : Int32)), .val (.int (0 : Int32)), .unset, .unset, .unset] [(.int (1 : Int32)), (.int (0 : Int32)), (.ref b3)])) _
    refine XS.iadd X41.here hx rfl (hb hby d1_80) rfl ?_
    show Steps p.tables e below (T41.setTop (mkF m 81 #[.val (.ref a1), .val (.int (2 : Int32)), .val (.ref a3), .val (.ref a4), .val (.ref a5), .val (.ref a6), .val (.int (2 : Int32)), .val (.int (0 : Int32)), .unset, .unset, .unset] [(.int (1 : Int32)), (.ref b3)])) _
    jvm_step X41.here [X41.here.top, hx, (hb hby d1_81), Value.category]
    show Steps p.tables e below (T41.setTop (mkF m 82 #[.val (.ref a1), .val (.int (2 : Int32)), .val (.ref a3), .val (.ref a4), .val (.ref a5), .val (.ref a6), .val (.int (2 : Int32)), .val (.int (0 : Int32)), .unset, .unset, .unset] [(.int (1 : Int32)), (.ref b3), (.int (1 : Int32)), (.ref b3)])) _
    refine X41.iaload hx (j := (1 : Int32)) (v := (.int (2 : Int32))) (by rw [e41]; exact A43.1) (State.isArrayOf_alike hZ.alike A43.2.1) A43.2.2 hin43 hat43 (g := (mkF m 82 #[.val (.ref a1), .val (.int (2 : Int32)), .val (.ref a3), .val (.ref a4), .val (.ref a5), .val (.ref a6), .val (.int (2 : Int32)), .val (.int (0 : Int32)), .unset, .unset, .unset] [(.int (1 : Int32)), (.ref b3), (.int (1 : Int32)), (.ref b3)])) rfl rfl (hb hby d1_82) _ ?_
    show Steps p.tables e below (T41.setTop (mkF m 83 #[.val (.ref a1), .val (.int (2 : Int32)), .val (.ref a3), .val (.ref a4), .val (.ref a5), .val (.ref a6), .val (.int (2 : Int32)), .val (.int (0 : Int32)), .unset, .unset, .unset] [(.int (2 : Int32)), (.int (1 : Int32)), (.ref b3)])) _
    refine XS.aloadN X41.here hx rfl (hb hby d1_83) rfl rfl ?_
    show Steps p.tables e below (T41.setTop (mkF m 84 #[.val (.ref a1), .val (.int (2 : Int32)), .val (.ref a3), .val (.ref a4), .val (.ref a5), .val (.ref a6), .val (.int (2 : Int32)), .val (.int (0 : Int32)), .unset, .unset, .unset] [(.ref a1), (.int (2 : Int32)), (.int (1 : Int32)), (.ref b3)])) _
    refine st44 _ ?_
    show Steps p.tables e below (T44.setTop (mkF m 87 #[.val (.ref a1), .val (.int (2 : Int32)), .val (.ref a3), .val (.ref a4), .val (.ref a5), .val (.ref a6), .val (.int (2 : Int32)), .val (.int (0 : Int32)), .unset, .unset, .unset] [(.ref b3), (.int (2 : Int32)), (.int (1 : Int32)), (.ref b3)])) _
    refine XS.iload X44.here hx rfl (hb hby d1_87) rfl ?_
    show Steps p.tables e below (T44.setTop (mkF m 89 #[.val (.ref a1), .val (.int (2 : Int32)), .val (.ref a3), .val (.ref a4), .val (.ref a5), .val (.ref a6), .val (.int (2 : Int32)), .val (.int (0 : Int32)), .unset, .unset, .unset] [(.int (0 : Int32)), (.ref b3), (.int (2 : Int32)), (.int (1 : Int32)), (.ref b3)])) _
    refine X44.iaload hx (j := (0 : Int32)) (v := (.int (0 : Int32))) (by rw [e44]; exact A45.1) (State.isArrayOf_alike hZ.alike A45.2.1) A45.2.2 hin45 hat45 (g := (mkF m 89 #[.val (.ref a1), .val (.int (2 : Int32)), .val (.ref a3), .val (.ref a4), .val (.ref a5), .val (.ref a6), .val (.int (2 : Int32)), .val (.int (0 : Int32)), .unset, .unset, .unset] [(.int (0 : Int32)), (.ref b3), (.int (2 : Int32)), (.int (1 : Int32)), (.ref b3)])) rfl rfl (hb hby d1_89) _ ?_
    show Steps p.tables e below (T44.setTop (mkF m 90 #[.val (.ref a1), .val (.int (2 : Int32)), .val (.ref a3), .val (.ref a4), .val (.ref a5), .val (.ref a6), .val (.int (2 : Int32)), .val (.int (0 : Int32)), .unset, .unset, .unset] [(.int (0 : Int32)), (.int (2 : Int32)), (.int (1 : Int32)), (.ref b3)])) _
    refine XS.iadd X44.here hx rfl (hb hby d1_90) rfl ?_
    show Steps p.tables e below (T44.setTop (mkF m 91 #[.val (.ref a1), .val (.int (2 : Int32)), .val (.ref a3), .val (.ref a4), .val (.ref a5), .val (.ref a6), .val (.int (2 : Int32)), .val (.int (0 : Int32)), .unset, .unset, .unset] [(.int (2 : Int32)), (.int (1 : Int32)), (.ref b3)])) _
    refine st46 _ ?_
    show Steps p.tables e below (T46.setTop (mkF m 92 #[.val (.ref a1), .val (.int (2 : Int32)), .val (.ref a3), .val (.ref a4), .val (.ref a5), .val (.ref a6), .val (.int (2 : Int32)), .val (.int (0 : Int32)), .unset, .unset, .unset] [])) _
    refine XS.iinc X46.here hx rfl (hb hby d1_92) rfl (l' := #[.val (.ref a1), .val (.int (2 : Int32)), .val (.ref a3), .val (.ref a4), .val (.ref a5), .val (.ref a6), .val (.int (2 : Int32)), .val (.int (1 : Int32)), .unset, .unset, .unset]) rfl ?_
    show Steps p.tables e below (T46.setTop (mkF m 95 #[.val (.ref a1), .val (.int (2 : Int32)), .val (.ref a3), .val (.ref a4), .val (.ref a5), .val (.ref a6), .val (.int (2 : Int32)), .val (.int (1 : Int32)), .unset, .unset, .unset] [])) _
    refine XS.goto X46.here hx rfl (pc0 := 95) (pc' := 67) rfl (hb hby d1_95) (by decide) (by decide) ?_
    show Steps p.tables e below (T46.setTop (mkF m 67 #[.val (.ref a1), .val (.int (2 : Int32)), .val (.ref a3), .val (.ref a4), .val (.ref a5), .val (.ref a6), .val (.int (2 : Int32)), .val (.int (1 : Int32)), .unset, .unset, .unset] [])) _
    refine XS.iload X46.here hx rfl (hb hby d1_67) rfl ?_
    show Steps p.tables e below (T46.setTop (mkF m 69 #[.val (.ref a1), .val (.int (2 : Int32)), .val (.ref a3), .val (.ref a4), .val (.ref a5), .val (.ref a6), .val (.int (2 : Int32)), .val (.int (1 : Int32)), .unset, .unset, .unset] [(.int (1 : Int32))])) _
    refine XS.iloadN X46.here hx rfl (hb hby d1_69) rfl ?_
    show Steps p.tables e below (T46.setTop (mkF m 70 #[.val (.ref a1), .val (.int (2 : Int32)), .val (.ref a3), .val (.ref a4), .val (.ref a5), .val (.ref a6), .val (.int (2 : Int32)), .val (.int (1 : Int32)), .unset, .unset, .unset] [(.int (2 : Int32)), (.int (1 : Int32))])) _
    refine XS.icmpNo X46.here hx rfl (hb hby d1_70) rfl (tlt (by decide : (1 : Int32) < (2 : Int32))).2.1 ?_
    show Steps p.tables e below (T46.setTop (mkF m 73 #[.val (.ref a1), .val (.int (2 : Int32)), .val (.ref a3), .val (.ref a4), .val (.ref a5), .val (.ref a6), .val (.int (2 : Int32)), .val (.int (1 : Int32)), .unset, .unset, .unset] [])) _
    refine XS.aloadN X46.here hx rfl (hb hby d1_73) rfl rfl ?_
    show Steps p.tables e below (T46.setTop (mkF m 74 #[.val (.ref a1), .val (.int (2 : Int32)), .val (.ref a3), .val (.ref a4), .val (.ref a5), .val (.ref a6), .val (.int (2 : Int32)), .val (.int (1 : Int32)), .unset, .unset, .unset] [(.ref a1)])) _
    refine st47 _ ?_
    show Steps p.tables e below (T47.setTop (mkF m 77 #[.val (.ref a1), .val (.int (2 : Int32)), .val (.ref a3), .val (.ref a4), .val (.ref a5), .val (.ref a6), .val (.int (2 : Int32)), .val (.int (1 : Int32)), .unset, .unset, .unset] [(.ref b3)])) _
    refine XS.iload X47.here hx rfl (hb hby d1_77) rfl ?_
    show Steps p.tables e below (T47.setTop (mkF m 79 #[.val (.ref a1), .val (.int (2 : Int32)), .val (.ref a3), .val (.ref a4), .val (.ref a5), .val (.ref a6), .val (.int (2 : Int32)), .val (.int (1 : Int32)), .unset, .unset, .unset] [(.int (1 : Int32)), (.ref b3)])) _
    refine XS.iconst X47.here hx rfl (hb hby d1_79) ?_
    show Steps p.tables e below (T47.setTop (mkF m 80 #[.val (.ref a1), .val (.int (2 : Int32)), .val (.ref a3), .val (.ref a4), .val (.ref a5), .val (.ref a6), .val (.int (2 : Int32)), .val (.int (1 : Int32)), .unset, .unset, .unset] [(.int (1 : Int32)), (.int (1 : Int32)), (.ref b3)])) _
    refine XS.iadd X47.here hx rfl (hb hby d1_80) rfl ?_
    show Steps p.tables e below (T47.setTop (mkF m 81 #[.val (.ref a1), .val (.int (2 : Int32)), .val (.ref a3), .val (.ref a4), .val (.ref a5), .val (.ref a6), .val (.int (2 : Int32)), .val (.int (1 : Int32)), .unset, .unset, .unset] [(.int (2 : Int32)), (.ref b3)])) _
    jvm_step X47.here [X47.here.top, hx, (hb hby d1_81), Value.category]
    show Steps p.tables e below (T47.setTop (mkF m 82 #[.val (.ref a1), .val (.int (2 : Int32)), .val (.ref a3), .val (.ref a4), .val (.ref a5), .val (.ref a6), .val (.int (2 : Int32)), .val (.int (1 : Int32)), .unset, .unset, .unset] [(.int (2 : Int32)), (.ref b3), (.int (2 : Int32)), (.ref b3)])) _
    refine X47.iaload hx (j := (2 : Int32)) (v := (.int (2 : Int32))) (by rw [e47]; exact A49.1) (State.isArrayOf_alike hZ.alike A49.2.1) A49.2.2 hin49 hat49 (g := (mkF m 82 #[.val (.ref a1), .val (.int (2 : Int32)), .val (.ref a3), .val (.ref a4), .val (.ref a5), .val (.ref a6), .val (.int (2 : Int32)), .val (.int (1 : Int32)), .unset, .unset, .unset] [(.int (2 : Int32)), (.ref b3), (.int (2 : Int32)), (.ref b3)])) rfl rfl (hb hby d1_82) _ ?_
    show Steps p.tables e below (T47.setTop (mkF m 83 #[.val (.ref a1), .val (.int (2 : Int32)), .val (.ref a3), .val (.ref a4), .val (.ref a5), .val (.ref a6), .val (.int (2 : Int32)), .val (.int (1 : Int32)), .unset, .unset, .unset] [(.int (2 : Int32)), (.int (2 : Int32)), (.ref b3)])) _
    refine XS.aloadN X47.here hx rfl (hb hby d1_83) rfl rfl ?_
    show Steps p.tables e below (T47.setTop (mkF m 84 #[.val (.ref a1), .val (.int (2 : Int32)), .val (.ref a3), .val (.ref a4), .val (.ref a5), .val (.ref a6), .val (.int (2 : Int32)), .val (.int (1 : Int32)), .unset, .unset, .unset] [(.ref a1), (.int (2 : Int32)), (.int (2 : Int32)), (.ref b3)])) _
    refine st50 _ ?_
    show Steps p.tables e below (T50.setTop (mkF m 87 #[.val (.ref a1), .val (.int (2 : Int32)), .val (.ref a3), .val (.ref a4), .val (.ref a5), .val (.ref a6), .val (.int (2 : Int32)), .val (.int (1 : Int32)), .unset, .unset, .unset] [(.ref b3), (.int (2 : Int32)), (.int (2 : Int32)), (.ref b3)])) _
    refine XS.iload X50.here hx rfl (hb hby d1_87) rfl ?_
    show Steps p.tables e below (T50.setTop (mkF m 89 #[.val (.ref a1), .val (.int (2 : Int32)), .val (.ref a3), .val (.ref a4), .val (.ref a5), .val (.ref a6), .val (.int (2 : Int32)), .val (.int (1 : Int32)), .unset, .unset, .unset] [(.int (1 : Int32)), (.ref b3), (.int (2 : Int32)), (.int (2 : Int32)), (.ref b3)])) _
    refine X50.iaload hx (j := (1 : Int32)) (v := (.int (2 : Int32))) (by rw [e50]; exact A51.1) (State.isArrayOf_alike hZ.alike A51.2.1) A51.2.2 hin51 hat51 (g := (mkF m 89 #[.val (.ref a1), .val (.int (2 : Int32)), .val (.ref a3), .val (.ref a4), .val (.ref a5), .val (.ref a6), .val (.int (2 : Int32)), .val (.int (1 : Int32)), .unset, .unset, .unset] [(.int (1 : Int32)), (.ref b3), (.int (2 : Int32)), (.int (2 : Int32)), (.ref b3)])) rfl rfl (hb hby d1_89) _ ?_
    show Steps p.tables e below (T50.setTop (mkF m 90 #[.val (.ref a1), .val (.int (2 : Int32)), .val (.ref a3), .val (.ref a4), .val (.ref a5), .val (.ref a6), .val (.int (2 : Int32)), .val (.int (1 : Int32)), .unset, .unset, .unset] [(.int (2 : Int32)), (.int (2 : Int32)), (.int (2 : Int32)), (.ref b3)])) _
    refine XS.iadd X50.here hx rfl (hb hby d1_90) rfl ?_
    show Steps p.tables e below (T50.setTop (mkF m 91 #[.val (.ref a1), .val (.int (2 : Int32)), .val (.ref a3), .val (.ref a4), .val (.ref a5), .val (.ref a6), .val (.int (2 : Int32)), .val (.int (1 : Int32)), .unset, .unset, .unset] [(.int (4 : Int32)), (.int (2 : Int32)), (.ref b3)])) _
    refine st52 _ ?_
    show Steps p.tables e below (T52.setTop (mkF m 92 #[.val (.ref a1), .val (.int (2 : Int32)), .val (.ref a3), .val (.ref a4), .val (.ref a5), .val (.ref a6), .val (.int (2 : Int32)), .val (.int (1 : Int32)), .unset, .unset, .unset] [])) _
    refine XS.iinc X52.here hx rfl (hb hby d1_92) rfl (l' := #[.val (.ref a1), .val (.int (2 : Int32)), .val (.ref a3), .val (.ref a4), .val (.ref a5), .val (.ref a6), .val (.int (2 : Int32)), .val (.int (2 : Int32)), .unset, .unset, .unset]) rfl ?_
    show Steps p.tables e below (T52.setTop (mkF m 95 #[.val (.ref a1), .val (.int (2 : Int32)), .val (.ref a3), .val (.ref a4), .val (.ref a5), .val (.ref a6), .val (.int (2 : Int32)), .val (.int (2 : Int32)), .unset, .unset, .unset] [])) _
    refine XS.goto X52.here hx rfl (pc0 := 95) (pc' := 67) rfl (hb hby d1_95) (by decide) (by decide) ?_
    show Steps p.tables e below (T52.setTop (mkF m 67 #[.val (.ref a1), .val (.int (2 : Int32)), .val (.ref a3), .val (.ref a4), .val (.ref a5), .val (.ref a6), .val (.int (2 : Int32)), .val (.int (2 : Int32)), .unset, .unset, .unset] [])) _
    refine XS.iload X52.here hx rfl (hb hby d1_67) rfl ?_
    show Steps p.tables e below (T52.setTop (mkF m 69 #[.val (.ref a1), .val (.int (2 : Int32)), .val (.ref a3), .val (.ref a4), .val (.ref a5), .val (.ref a6), .val (.int (2 : Int32)), .val (.int (2 : Int32)), .unset, .unset, .unset] [(.int (2 : Int32))])) _
    refine XS.iloadN X52.here hx rfl (hb hby d1_69) rfl ?_
    show Steps p.tables e below (T52.setTop (mkF m 70 #[.val (.ref a1), .val (.int (2 : Int32)), .val (.ref a3), .val (.ref a4), .val (.ref a5), .val (.ref a6), .val (.int (2 : Int32)), .val (.int (2 : Int32)), .unset, .unset, .unset] [(.int (2 : Int32)), (.int (2 : Int32))])) _
    refine XS.icmpYes X52.here hx rfl (pc0 := 70) (pc' := 98) rfl (hb hby d1_70) rfl (flt (by decide : ¬ ((2 : Int32) < (2 : Int32)))).2.1 (by decide) (by decide) ?_
    show Steps p.tables e below (T52.setTop (mkF m 98 #[.val (.ref a1), .val (.int (2 : Int32)), .val (.ref a3), .val (.ref a4), .val (.ref a5), .val (.ref a6), .val (.int (2 : Int32)), .val (.int (2 : Int32)), .unset, .unset, .unset] [])) _
    refine XS.aloadN X52.here hx rfl (hb hby d1_98) rfl rfl ?_
    show Steps p.tables e below (T52.setTop (mkF m 99 #[.val (.ref a1), .val (.int (2 : Int32)), .val (.ref a3), .val (.ref a4), .val (.ref a5), .val (.ref a6), .val (.int (2 : Int32)), .val (.int (2 : Int32)), .unset, .unset, .unset] [(.ref a1)])) _
    refine XS.iconst X52.here hx rfl (hb hby d1_99) ?_
    show Steps p.tables e below (T52.setTop (mkF m 100 #[.val (.ref a1), .val (.int (2 : Int32)), .val (.ref a3), .val (.ref a4), .val (.ref a5), .val (.ref a6), .val (.int (2 : Int32)), .val (.int (2 : Int32)), .unset, .unset, .unset] [(.int (2 : Int32)), (.ref a1)])) _
    refine XS.iload X52.here hx rfl (hb hby d1_100) rfl ?_
    show Steps p.tables e below (T52.setTop (mkF m 102 #[.val (.ref a1), .val (.int (2 : Int32)), .val (.ref a3), .val (.ref a4), .val (.ref a5), .val (.ref a6), .val (.int (2 : Int32)), .val (.int (2 : Int32)), .unset, .unset, .unset] [(.int (2 : Int32)), (.int (2 : Int32)), (.ref a1)])) _
    refine XS.imul X52.here hx rfl (hb hby d1_102) rfl ?_
    show Steps p.tables e below (T52.setTop (mkF m 103 #[.val (.ref a1), .val (.int (2 : Int32)), .val (.ref a3), .val (.ref a4), .val (.ref a5), .val (.ref a6), .val (.int (2 : Int32)), .val (.int (2 : Int32)), .unset, .unset, .unset] [(.int (4 : Int32)), (.ref a1)])) _
    refine st53 _ ?_
    show Steps p.tables e below (T53.setTop (mkF m 105 #[.val (.ref a1), .val (.int (2 : Int32)), .val (.ref a3), .val (.ref a4), .val (.ref a5), .val (.ref a6), .val (.int (2 : Int32)), .val (.int (2 : Int32)), .unset, .unset, .unset] [(.ref b53), (.ref a1)])) _
    refine st65 _ ?_
    show Steps p.tables e below (T65.setTop (mkF m 108 #[.val (.ref a1), .val (.int (2 : Int32)), .val (.ref a3), .val (.ref a4), .val (.ref a5), .val (.ref a6), .val (.int (2 : Int32)), .val (.int (2 : Int32)), .unset, .unset, .unset] [])) _
    refine XS.aloadN X65.here hx rfl (hb hby d1_108) rfl rfl ?_
    show Steps p.tables e below (T65.setTop (mkF m 109 #[.val (.ref a1), .val (.int (2 : Int32)), .val (.ref a3), .val (.ref a4), .val (.ref a5), .val (.ref a6), .val (.int (2 : Int32)), .val (.int (2 : Int32)), .unset, .unset, .unset] [(.ref a1)])) _
    refine XS.iconst X65.here hx rfl (hb hby d1_109) ?_
    show Steps p.tables e below (T65.setTop (mkF m 110 #[.val (.ref a1), .val (.int (2 : Int32)), .val (.ref a3), .val (.ref a4), .val (.ref a5), .val (.ref a6), .val (.int (2 : Int32)), .val (.int (2 : Int32)), .unset, .unset, .unset] [(.int (2 : Int32)), (.ref a1)])) _
    refine XS.iload X65.here hx rfl (hb hby d1_110) rfl ?_
    show Steps p.tables e below (T65.setTop (mkF m 112 #[.val (.ref a1), .val (.int (2 : Int32)), .val (.ref a3), .val (.ref a4), .val (.ref a5), .val (.ref a6), .val (.int (2 : Int32)), .val (.int (2 : Int32)), .unset, .unset, .unset] [(.int (2 : Int32)), (.int (2 : Int32)), (.ref a1)])) _
    refine XS.imul X65.here hx rfl (hb hby d1_112) rfl ?_
    show Steps p.tables e below (T65.setTop (mkF m 113 #[.val (.ref a1), .val (.int (2 : Int32)), .val (.ref a3), .val (.ref a4), .val (.ref a5), .val (.ref a6), .val (.int (2 : Int32)), .val (.int (2 : Int32)), .unset, .unset, .unset] [(.int (4 : Int32)), (.ref a1)])) _
    refine st68 _ ?_
    show Steps p.tables e below (T68.setTop (mkF m 115 #[.val (.ref a1), .val (.int (2 : Int32)), .val (.ref a3), .val (.ref a4), .val (.ref a5), .val (.ref a6), .val (.int (2 : Int32)), .val (.int (2 : Int32)), .unset, .unset, .unset] [(.ref b68), (.ref a1)])) _
    refine st83 _ ?_
    show Steps p.tables e below (T83.setTop (mkF m 118 #[.val (.ref a1), .val (.int (2 : Int32)), .val (.ref a3), .val (.ref a4), .val (.ref a5), .val (.ref a6), .val (.int (2 : Int32)), .val (.int (2 : Int32)), .unset, .unset, .unset] [])) _
    refine XS.aloadN X83.here hx rfl (hb hby d1_118) rfl rfl ?_
    show Steps p.tables e below (T83.setTop (mkF m 119 #[.val (.ref a1), .val (.int (2 : Int32)), .val (.ref a3), .val (.ref a4), .val (.ref a5), .val (.ref a6), .val (.int (2 : Int32)), .val (.int (2 : Int32)), .unset, .unset, .unset] [(.ref a1)])) _
    refine XS.iconst X83.here hx rfl (hb hby d1_119) ?_
    show Steps p.tables e below (T83.setTop (mkF m 120 #[.val (.ref a1), .val (.int (2 : Int32)), .val (.ref a3), .val (.ref a4), .val (.ref a5), .val (.ref a6), .val (.int (2 : Int32)), .val (.int (2 : Int32)), .unset, .unset, .unset] [(.int (2 : Int32)), (.ref a1)])) _
    refine XS.iload X83.here hx rfl (hb hby d1_120) rfl ?_
    show Steps p.tables e below (T83.setTop (mkF m 122 #[.val (.ref a1), .val (.int (2 : Int32)), .val (.ref a3), .val (.ref a4), .val (.ref a5), .val (.ref a6), .val (.int (2 : Int32)), .val (.int (2 : Int32)), .unset, .unset, .unset] [(.int (2 : Int32)), (.int (2 : Int32)), (.ref a1)])) _
    refine XS.imul X83.here hx rfl (hb hby d1_122) rfl ?_
    show Steps p.tables e below (T83.setTop (mkF m 123 #[.val (.ref a1), .val (.int (2 : Int32)), .val (.ref a3), .val (.ref a4), .val (.ref a5), .val (.ref a6), .val (.int (2 : Int32)), .val (.int (2 : Int32)), .unset, .unset, .unset] [(.int (4 : Int32)), (.ref a1)])) _
    refine st86 _ ?_
    show Steps p.tables e below (T86.setTop (mkF m 125 #[.val (.ref a1), .val (.int (2 : Int32)), .val (.ref a3), .val (.ref a4), .val (.ref a5), .val (.ref a6), .val (.int (2 : Int32)), .val (.int (2 : Int32)), .unset, .unset, .unset] [(.ref b86), (.ref a1)])) _
    refine st103 _ ?_
    show Steps p.tables e below (T103.setTop (mkF m 128 #[.val (.ref a1), .val (.int (2 : Int32)), .val (.ref a3), .val (.ref a4), .val (.ref a5), .val (.ref a6), .val (.int (2 : Int32)), .val (.int (2 : Int32)), .unset, .unset, .unset] [])) _
    refine XS.aloadN X103.here hx rfl (hb hby d1_128) rfl rfl ?_
    show Steps p.tables e below (T103.setTop (mkF m 129 #[.val (.ref a1), .val (.int (2 : Int32)), .val (.ref a3), .val (.ref a4), .val (.ref a5), .val (.ref a6), .val (.int (2 : Int32)), .val (.int (2 : Int32)), .unset, .unset, .unset] [(.ref a1)])) _
    refine XS.iconst X103.here hx rfl (hb hby d1_129) ?_
    show Steps p.tables e below (T103.setTop (mkF m 130 #[.val (.ref a1), .val (.int (2 : Int32)), .val (.ref a3), .val (.ref a4), .val (.ref a5), .val (.ref a6), .val (.int (2 : Int32)), .val (.int (2 : Int32)), .unset, .unset, .unset] [(.int (2 : Int32)), (.ref a1)])) _
    refine XS.iload X103.here hx rfl (hb hby d1_130) rfl ?_
    show Steps p.tables e below (T103.setTop (mkF m 132 #[.val (.ref a1), .val (.int (2 : Int32)), .val (.ref a3), .val (.ref a4), .val (.ref a5), .val (.ref a6), .val (.int (2 : Int32)), .val (.int (2 : Int32)), .unset, .unset, .unset] [(.int (2 : Int32)), (.int (2 : Int32)), (.ref a1)])) _
    refine XS.imul X103.here hx rfl (hb hby d1_132) rfl ?_
    show Steps p.tables e below (T103.setTop (mkF m 133 #[.val (.ref a1), .val (.int (2 : Int32)), .val (.ref a3), .val (.ref a4), .val (.ref a5), .val (.ref a6), .val (.int (2 : Int32)), .val (.int (2 : Int32)), .unset, .unset, .unset] [(.int (4 : Int32)), (.ref a1)])) _
    refine st106 _ ?_
    show Steps p.tables e below (T106.setTop (mkF m 135 #[.val (.ref a1), .val (.int (2 : Int32)), .val (.ref a3), .val (.ref a4), .val (.ref a5), .val (.ref a6), .val (.int (2 : Int32)), .val (.int (2 : Int32)), .unset, .unset, .unset] [(.ref b106), (.ref a1)])) _
    refine st125 _ ?_
    show Steps p.tables e below (T125.setTop (mkF m 138 #[.val (.ref a1), .val (.int (2 : Int32)), .val (.ref a3), .val (.ref a4), .val (.ref a5), .val (.ref a6), .val (.int (2 : Int32)), .val (.int (2 : Int32)), .unset, .unset, .unset] [])) _
    refine XS.aloadN X125.here hx rfl (hb hby d1_138) rfl rfl ?_
    show Steps p.tables e below (T125.setTop (mkF m 139 #[.val (.ref a1), .val (.int (2 : Int32)), .val (.ref a3), .val (.ref a4), .val (.ref a5), .val (.ref a6), .val (.int (2 : Int32)), .val (.int (2 : Int32)), .unset, .unset, .unset] [(.ref a1)])) _
    refine XS.iload X125.here hx rfl (hb hby d1_139) rfl ?_
    show Steps p.tables e below (T125.setTop (mkF m 141 #[.val (.ref a1), .val (.int (2 : Int32)), .val (.ref a3), .val (.ref a4), .val (.ref a5), .val (.ref a6), .val (.int (2 : Int32)), .val (.int (2 : Int32)), .unset, .unset, .unset] [(.int (2 : Int32)), (.ref a1)])) _
    refine st128 _ ?_
    show Steps p.tables e below (T128.setTop (mkF m 143 #[.val (.ref a1), .val (.int (2 : Int32)), .val (.ref a3), .val (.ref a4), .val (.ref a5), .val (.ref a6), .val (.int (2 : Int32)), .val (.int (2 : Int32)), .unset, .unset, .unset] [(.ref b128), (.ref a1)])) _
    refine st149 _ ?_
    show Steps p.tables e below (T149.setTop (mkF m 146 #[.val (.ref a1), .val (.int (2 : Int32)), .val (.ref a3), .val (.ref a4), .val (.ref a5), .val (.ref a6), .val (.int (2 : Int32)), .val (.int (2 : Int32)), .unset, .unset, .unset] [])) _
    refine XS.iloadN X149.here hx rfl (hb hby d1_146) rfl ?_
    show Steps p.tables e below (T149.setTop (mkF m 147 #[.val (.ref a1), .val (.int (2 : Int32)), .val (.ref a3), .val (.ref a4), .val (.ref a5), .val (.ref a6), .val (.int (2 : Int32)), .val (.int (2 : Int32)), .unset, .unset, .unset] [(.int (2 : Int32))])) _
    refine st152 _ ?_
    show Steps p.tables e below (T152.setTop (mkF m 149 #[.val (.ref a1), .val (.int (2 : Int32)), .val (.ref a3), .val (.ref a4), .val (.ref a5), .val (.ref a6), .val (.int (2 : Int32)), .val (.int (2 : Int32)), .unset, .unset, .unset] [(.ref b152)])) _
    refine XS.astore X152.here hx rfl (hb hby d1_149) rfl rfl (l' := #[.val (.ref a1), .val (.int (2 : Int32)), .val (.ref a3), .val (.ref a4), .val (.ref a5), .val (.ref a6), .val (.int (2 : Int32)), .val (.ref b152), .unset, .unset, .unset]) rfl ?_
    show Steps p.tables e below (T152.setTop (mkF m 151 #[.val (.ref a1), .val (.int (2 : Int32)), .val (.ref a3), .val (.ref a4), .val (.ref a5), .val (.ref a6), .val (.int (2 : Int32)), .val (.ref b152), .unset, .unset, .unset] [])) _
    refine XS.aloadN X152.here hx rfl (hb hby d1_151) rfl rfl ?_
    show Steps p.tables e below (T152.setTop (mkF m 152 #[.val (.ref a1), .val (.int (2 : Int32)), .val (.ref a3), .val (.ref a4), .val (.ref a5), .val (.ref a6), .val (.int (2 : Int32)), .val (.ref b152), .unset, .unset, .unset] [(.ref a1)])) _
    refine st175 _ ?_
    show Steps p.tables e below (T175.setTop (mkF m 155 #[.val (.ref a1), .val (.int (2 : Int32)), .val (.ref a3), .val (.ref a4), .val (.ref a5), .val (.ref a6), .val (.int (2 : Int32)), .val (.ref b152), .unset, .unset, .unset] [(.ref b3)])) _
    refine XS.iconst X175.here hx rfl (hb hby d1_155) ?_
    show Steps p.tables e below (T175.setTop (mkF m 156 #[.val (.ref a1), .val (.int (2 : Int32)), .val (.ref a3), .val (.ref a4), .val (.ref a5), .val (.ref a6), .val (.int (2 : Int32)), .val (.ref b152), .unset, .unset, .unset] [(.int (0 : Int32)), (.ref b3)])) _
    refine XS.aload X175.here hx rfl (hb hby d1_156) rfl rfl ?_
    show Steps p.tables e below (T175.setTop (mkF m 158 #[.val (.ref a1), .val (.int (2 : Int32)), .val (.ref a3), .val (.ref a4), .val (.ref a5), .val (.ref a6), .val (.int (2 : Int32)), .val (.ref b152), .unset, .unset, .unset] [(.ref b152), (.int (0 : Int32)), (.ref b3)])) _
    refine XS.iconst X175.here hx rfl (hb hby d1_158) ?_
    show Steps p.tables e below (T175.setTop (mkF m 159 #[.val (.ref a1), .val (.int (2 : Int32)), .val (.ref a3), .val (.ref a4), .val (.ref a5), .val (.ref a6), .val (.int (2 : Int32)), .val (.ref b152), .unset, .unset, .unset] [(.int (0 : Int32)), (.ref b152), (.int (0 : Int32)), (.ref b3)])) _
    refine XS.iloadN X175.here hx rfl (hb hby d1_159) rfl ?_
    show Steps p.tables e below (T175.setTop (mkF m 160 #[.val (.ref a1), .val (.int (2 : Int32)), .val (.ref a3), .val (.ref a4), .val (.ref a5), .val (.ref a6), .val (.int (2 : Int32)), .val (.ref b152), .unset, .unset, .unset] [(.int (2 : Int32)), (.int (0 : Int32)), (.ref b152), (.int (0 : Int32)), (.ref b3)])) _
    refine st177 _ ?_
    show Steps p.tables e below (T177.setTop (mkF m 163 #[.val (.ref a1), .val (.int (2 : Int32)), .val (.ref a3), .val (.ref a4), .val (.ref a5), .val (.ref a6), .val (.int (2 : Int32)), .val (.ref b152), .unset, .unset, .unset] [])) _
    refine XS.iconst X177.here hx rfl (hb hby d1_163) ?_
    show Steps p.tables e below (T177.setTop (mkF m 164 #[.val (.ref a1), .val (.int (2 : Int32)), .val (.ref a3), .val (.ref a4), .val (.ref a5), .val (.ref a6), .val (.int (2 : Int32)), .val (.ref b152), .unset, .unset, .unset] [(.int (0 : Int32))])) _
    refine XS.istore X177.here hx rfl (hb hby d1_164) rfl (l' := #[.val (.ref a1), .val (.int (2 : Int32)), .val (.ref a3), .val (.ref a4), .val (.ref a5), .val (.ref a6), .val (.int (2 : Int32)), .val (.ref b152), .val (.int (0 : Int32)), .unset, .unset]) rfl ?_
    show Steps p.tables e below (T177.setTop (mkF m 166 #[.val (.ref a1), .val (.int (2 : Int32)), .val (.ref a3), .val (.ref a4), .val (.ref a5), .val (.ref a6), .val (.int (2 : Int32)), .val (.ref b152), .val (.int (0 : Int32)), .unset, .unset] [])) _
    refine XS.iload X177.here hx rfl (hb hby d1_166) rfl ?_
    show Steps p.tables e below (T177.setTop (mkF m 168 #[.val (.ref a1), .val (.int (2 : Int32)), .val (.ref a3), .val (.ref a4), .val (.ref a5), .val (.ref a6), .val (.int (2 : Int32)), .val (.ref b152), .val (.int (0 : Int32)), .unset, .unset] [(.int (0 : Int32))])) _
    refine XS.iload X177.here hx rfl (hb hby d1_168) rfl ?_
    show Steps p.tables e below (T177.setTop (mkF m 170 #[.val (.ref a1), .val (.int (2 : Int32)), .val (.ref a3), .val (.ref a4), .val (.ref a5), .val (.ref a6), .val (.int (2 : Int32)), .val (.ref b152), .val (.int (0 : Int32)), .unset, .unset] [(.int (2 : Int32)), (.int (0 : Int32))])) _
    refine XS.icmpNo X177.here hx rfl (hb hby d1_170) rfl (tlt (by decide : (0 : Int32) < (2 : Int32))).2.1 ?_
    show Steps p.tables e below (T177.setTop (mkF m 173 #[.val (.ref a1), .val (.int (2 : Int32)), .val (.ref a3), .val (.ref a4), .val (.ref a5), .val (.ref a6), .val (.int (2 : Int32)), .val (.ref b152), .val (.int (0 : Int32)), .unset, .unset] [])) _
    refine XS.aload X177.here hx rfl (hb hby d1_173) rfl rfl ?_
    show Steps p.tables e below (T177.setTop (mkF m 175 #[.val (.ref a1), .val (.int (2 : Int32)), .val (.ref a3), .val (.ref a4), .val (.ref a5), .val (.ref a6), .val (.int (2 : Int32)), .val (.ref b152), .val (.int (0 : Int32)), .unset, .unset] [(.ref b152)])) _
    refine XS.aloadN X177.here hx rfl (hb hby d1_175) rfl rfl ?_
    show Steps p.tables e below (T177.setTop (mkF m 176 #[.val (.ref a1), .val (.int (2 : Int32)), .val (.ref a3), .val (.ref a4), .val (.ref a5), .val (.ref a6), .val (.int (2 : Int32)), .val (.ref b152), .val (.int (0 : Int32)), .unset, .unset] [(.ref a3), (.ref b152)])) _
    refine XS.iload X177.here hx rfl (hb hby d1_176) rfl ?_
    show Steps p.tables e below (T177.setTop (mkF m 178 #[.val (.ref a1), .val (.int (2 : Int32)), .val (.ref a3), .val (.ref a4), .val (.ref a5), .val (.ref a6), .val (.int (2 : Int32)), .val (.ref b152), .val (.int (0 : Int32)), .unset, .unset] [(.int (0 : Int32)), (.ref a3), (.ref b152)])) _
    refine X177.iaload hx (j := (0 : Int32)) (v := (.int (0 : Int32))) (by rw [e177]; exact A180.1) (State.isArrayOf_alike hZ.alike A180.2.1) A180.2.2 hin180 hat180 (g := (mkF m 178 #[.val (.ref a1), .val (.int (2 : Int32)), .val (.ref a3), .val (.ref a4), .val (.ref a5), .val (.ref a6), .val (.int (2 : Int32)), .val (.ref b152), .val (.int (0 : Int32)), .unset, .unset] [(.int (0 : Int32)), (.ref a3), (.ref b152)])) rfl rfl (hb hby d1_178) _ ?_
    show Steps p.tables e below (T177.setTop (mkF m 179 #[.val (.ref a1), .val (.int (2 : Int32)), .val (.ref a3), .val (.ref a4), .val (.ref a5), .val (.ref a6), .val (.int (2 : Int32)), .val (.ref b152), .val (.int (0 : Int32)), .unset, .unset] [(.int (0 : Int32)), (.ref b152)])) _
    jvm_step X177.here [X177.here.top, hx, (hb hby d1_179), Value.category]
    show Steps p.tables e below (T177.setTop (mkF m 180 #[.val (.ref a1), .val (.int (2 : Int32)), .val (.ref a3), .val (.ref a4), .val (.ref a5), .val (.ref a6), .val (.int (2 : Int32)), .val (.ref b152), .val (.int (0 : Int32)), .unset, .unset] [(.int (0 : Int32)), (.ref b152), (.int (0 : Int32)), (.ref b152)])) _
    refine X177.iaload hx (j := (0 : Int32)) (v := (.int (0 : Int32))) (by rw [e177]; exact A182.1) (State.isArrayOf_alike hZ.alike A182.2.1) A182.2.2 hin182 hat182 (g := (mkF m 180 #[.val (.ref a1), .val (.int (2 : Int32)), .val (.ref a3), .val (.ref a4), .val (.ref a5), .val (.ref a6), .val (.int (2 : Int32)), .val (.ref b152), .val (.int (0 : Int32)), .unset, .unset] [(.int (0 : Int32)), (.ref b152), (.int (0 : Int32)), (.ref b152)])) rfl rfl (hb hby d1_180) _ ?_
    show Steps p.tables e below (T177.setTop (mkF m 181 #[.val (.ref a1), .val (.int (2 : Int32)), .val (.ref a3), .val (.ref a4), .val (.ref a5), .val (.ref a6), .val (.int (2 : Int32)), .val (.ref b152), .val (.int (0 : Int32)), .unset, .unset] [(.int (0 : Int32)), (.int (0 : Int32)), (.ref b152)])) _
    jvm_step X177.here [X177.here.top, hx, (hb hby d1_181), Value.category]
    show Steps p.tables e below (T177.setTop (mkF m 182 #[.val (.ref a1), .val (.int (2 : Int32)), .val (.ref a3), .val (.ref a4), .val (.ref a5), .val (.ref a6), .val (.int (2 : Int32)), .val (.ref b152), .val (.int (0 : Int32)), .unset, .unset] [(.int (0 : Int32)), (.int (0 : Int32)), (.ref b152), (.int (0 : Int32))])) _
    refine XS.iconst X177.here hx rfl (hb hby d1_182) ?_
    show Steps p.tables e below (T177.setTop (mkF m 183 #[.val (.ref a1), .val (.int (2 : Int32)), .val (.ref a3), .val (.ref a4), .val (.ref a5), .val (.ref a6), .val (.int (2 : Int32)), .val (.ref b152), .val (.int (0 : Int32)), .unset, .unset] [(.int (1 : Int32)), (.int (0 : Int32)), (.int (0 : Int32)), (.ref b152), (.int (0 : Int32))])) _
    refine XS.iadd X177.here hx rfl (hb hby d1_183) rfl ?_
    show Steps p.tables e below (T177.setTop (mkF m 184 #[.val (.ref a1), .val (.int (2 : Int32)), .val (.ref a3), .val (.ref a4), .val (.ref a5), .val (.ref a6), .val (.int (2 : Int32)), .val (.ref b152), .val (.int (0 : Int32)), .unset, .unset] [(.int (1 : Int32)), (.int (0 : Int32)), (.ref b152), (.int (0 : Int32))])) _
    refine st183 _ ?_
    show Steps p.tables e below (T183.setTop (mkF m 185 #[.val (.ref a1), .val (.int (2 : Int32)), .val (.ref a3), .val (.ref a4), .val (.ref a5), .val (.ref a6), .val (.int (2 : Int32)), .val (.ref b152), .val (.int (0 : Int32)), .unset, .unset] [(.int (0 : Int32))])) _
    refine XS.istore X183.here hx rfl (hb hby d1_185) rfl (l' := #[.val (.ref a1), .val (.int (2 : Int32)), .val (.ref a3), .val (.ref a4), .val (.ref a5), .val (.ref a6), .val (.int (2 : Int32)), .val (.ref b152), .val (.int (0 : Int32)), .val (.int (0 : Int32)), .unset]) rfl ?_
    show Steps p.tables e below (T183.setTop (mkF m 187 #[.val (.ref a1), .val (.int (2 : Int32)), .val (.ref a3), .val (.ref a4), .val (.ref a5), .val (.ref a6), .val (.int (2 : Int32)), .val (.ref b152), .val (.int (0 : Int32)), .val (.int (0 : Int32)), .unset] [])) _
    refine XS.aload X183.here hx rfl (hb hby d1_187) rfl rfl ?_
    show Steps p.tables e below (T183.setTop (mkF m 189 #[.val (.ref a1), .val (.int (2 : Int32)), .val (.ref a3), .val (.ref a4), .val (.ref a5), .val (.ref a6), .val (.int (2 : Int32)), .val (.ref b152), .val (.int (0 : Int32)), .val (.int (0 : Int32)), .unset] [(.ref b152)])) _
    refine XS.aloadN X183.here hx rfl (hb hby d1_189) rfl rfl ?_
    show Steps p.tables e below (T183.setTop (mkF m 190 #[.val (.ref a1), .val (.int (2 : Int32)), .val (.ref a3), .val (.ref a4), .val (.ref a5), .val (.ref a6), .val (.int (2 : Int32)), .val (.ref b152), .val (.int (0 : Int32)), .val (.int (0 : Int32)), .unset] [(.ref a4), (.ref b152)])) _
    refine XS.iload X183.here hx rfl (hb hby d1_190) rfl ?_
    show Steps p.tables e below (T183.setTop (mkF m 192 #[.val (.ref a1), .val (.int (2 : Int32)), .val (.ref a3), .val (.ref a4), .val (.ref a5), .val (.ref a6), .val (.int (2 : Int32)), .val (.ref b152), .val (.int (0 : Int32)), .val (.int (0 : Int32)), .unset] [(.int (0 : Int32)), (.ref a4), (.ref b152)])) _
    refine X183.iaload hx (j := (0 : Int32)) (v := (.int (1 : Int32))) (by rw [e183]; exact A184.1) (State.isArrayOf_alike hZ.alike A184.2.1) A184.2.2 hin184 hat184 (g := (mkF m 192 #[.val (.ref a1), .val (.int (2 : Int32)), .val (.ref a3), .val (.ref a4), .val (.ref a5), .val (.ref a6), .val (.int (2 : Int32)), .val (.ref b152), .val (.int (0 : Int32)), .val (.int (0 : Int32)), .unset] [(.int (0 : Int32)), (.ref a4), (.ref b152)])) rfl rfl (hb hby d1_192) _ ?_
    show Steps p.tables e below (T183.setTop (mkF m 193 #[.val (.ref a1), .val (.int (2 : Int32)), .val (.ref a3), .val (.ref a4), .val (.ref a5), .val (.ref a6), .val (.int (2 : Int32)), .val (.ref b152), .val (.int (0 : Int32)), .val (.int (0 : Int32)), .unset] [(.int (1 : Int32)), (.ref b152)])) _
    jvm_step X183.here [X183.here.top, hx, (hb hby d1_193), Value.category]
    show Steps p.tables e below (T183.setTop (mkF m 194 #[.val (.ref a1), .val (.int (2 : Int32)), .val (.ref a3), .val (.ref a4), .val (.ref a5), .val (.ref a6), .val (.int (2 : Int32)), .val (.ref b152), .val (.int (0 : Int32)), .val (.int (0 : Int32)), .unset] [(.int (1 : Int32)), (.ref b152), (.int (1 : Int32)), (.ref b152)])) _
    refine X183.iaload hx (j := (1 : Int32)) (v := (.int (2 : Int32))) (by rw [e183]; exact A186.1) (State.isArrayOf_alike hZ.alike A186.2.1) A186.2.2 hin186 hat186 (g := (mkF m 194 #[.val (.ref a1), .val (.int (2 : Int32)), .val (.ref a3), .val (.ref a4), .val (.ref a5), .val (.ref a6), .val (.int (2 : Int32)), .val (.ref b152), .val (.int (0 : Int32)), .val (.int (0 : Int32)), .unset] [(.int (1 : Int32)), (.ref b152), (.int (1 : Int32)), (.ref b152)])) rfl rfl (hb hby d1_194) _ ?_
    show Steps p.tables e below (T183.setTop (mkF m 195 #[.val (.ref a1), .val (.int (2 : Int32)), .val (.ref a3), .val (.ref a4), .val (.ref a5), .val (.ref a6), .val (.int (2 : Int32)), .val (.ref b152), .val (.int (0 : Int32)), .val (.int (0 : Int32)), .unset] [(.int (2 : Int32)), (.int (1 : Int32)), (.ref b152)])) _
    jvm_step X183.here [X183.here.top, hx, (hb hby d1_195), Value.category]
    show Steps p.tables e below (T183.setTop (mkF m 196 #[.val (.ref a1), .val (.int (2 : Int32)), .val (.ref a3), .val (.ref a4), .val (.ref a5), .val (.ref a6), .val (.int (2 : Int32)), .val (.ref b152), .val (.int (0 : Int32)), .val (.int (0 : Int32)), .unset] [(.int (2 : Int32)), (.int (1 : Int32)), (.ref b152), (.int (2 : Int32))])) _
    refine XS.iconst X183.here hx rfl (hb hby d1_196) ?_
    show Steps p.tables e below (T183.setTop (mkF m 197 #[.val (.ref a1), .val (.int (2 : Int32)), .val (.ref a3), .val (.ref a4), .val (.ref a5), .val (.ref a6), .val (.int (2 : Int32)), .val (.ref b152), .val (.int (0 : Int32)), .val (.int (0 : Int32)), .unset] [(.int (1 : Int32)), (.int (2 : Int32)), (.int (1 : Int32)), (.ref b152), (.int (2 : Int32))])) _
    refine XS.iadd X183.here hx rfl (hb hby d1_197) rfl ?_
    show Steps p.tables e below (T183.setTop (mkF m 198 #[.val (.ref a1), .val (.int (2 : Int32)), .val (.ref a3), .val (.ref a4), .val (.ref a5), .val (.ref a6), .val (.int (2 : Int32)), .val (.ref b152), .val (.int (0 : Int32)), .val (.int (0 : Int32)), .unset] [(.int (3 : Int32)), (.int (1 : Int32)), (.ref b152), (.int (2 : Int32))])) _
    refine st187 _ ?_
    show Steps p.tables e below (T187.setTop (mkF m 199 #[.val (.ref a1), .val (.int (2 : Int32)), .val (.ref a3), .val (.ref a4), .val (.ref a5), .val (.ref a6), .val (.int (2 : Int32)), .val (.ref b152), .val (.int (0 : Int32)), .val (.int (0 : Int32)), .unset] [(.int (2 : Int32))])) _
    refine XS.istore X187.here hx rfl (hb hby d1_199) rfl (l' := #[.val (.ref a1), .val (.int (2 : Int32)), .val (.ref a3), .val (.ref a4), .val (.ref a5), .val (.ref a6), .val (.int (2 : Int32)), .val (.ref b152), .val (.int (0 : Int32)), .val (.int (0 : Int32)), .val (.int (2 : Int32))]) rfl ?_
    show Steps p.tables e below (T187.setTop (mkF m 201 #[.val (.ref a1), .val (.int (2 : Int32)), .val (.ref a3), .val (.ref a4), .val (.ref a5), .val (.ref a6), .val (.int (2 : Int32)), .val (.ref b152), .val (.int (0 : Int32)), .val (.int (0 : Int32)), .val (.int (2 : Int32))] [])) _
    refine XS.aloadN X187.here hx rfl (hb hby d1_201) rfl rfl ?_
    show Steps p.tables e below (T187.setTop (mkF m 202 #[.val (.ref a1), .val (.int (2 : Int32)), .val (.ref a3), .val (.ref a4), .val (.ref a5), .val (.ref a6), .val (.int (2 : Int32)), .val (.ref b152), .val (.int (0 : Int32)), .val (.int (0 : Int32)), .val (.int (2 : Int32))] [(.ref a1)])) _
    refine st188 _ ?_
    show Steps p.tables e below (T188.setTop (mkF m 205 #[.val (.ref a1), .val (.int (2 : Int32)), .val (.ref a3), .val (.ref a4), .val (.ref a5), .val (.ref a6), .val (.int (2 : Int32)), .val (.ref b152), .val (.int (0 : Int32)), .val (.int (0 : Int32)), .val (.int (2 : Int32))] [(.ref b53)])) _
    refine XS.iload X188.here hx rfl (hb hby d1_205) rfl ?_
    show Steps p.tables e below (T188.setTop (mkF m 207 #[.val (.ref a1), .val (.int (2 : Int32)), .val (.ref a3), .val (.ref a4), .val (.ref a5), .val (.ref a6), .val (.int (2 : Int32)), .val (.ref b152), .val (.int (0 : Int32)), .val (.int (0 : Int32)), .val (.int (2 : Int32))] [(.int (0 : Int32)), (.ref b53)])) _
    refine XS.aloadN X188.here hx rfl (hb hby d1_207) rfl rfl ?_
    show Steps p.tables e below (T188.setTop (mkF m 208 #[.val (.ref a1), .val (.int (2 : Int32)), .val (.ref a3), .val (.ref a4), .val (.ref a5), .val (.ref a6), .val (.int (2 : Int32)), .val (.ref b152), .val (.int (0 : Int32)), .val (.int (0 : Int32)), .val (.int (2 : Int32))] [(.ref a4), (.int (0 : Int32)), (.ref b53)])) _
    refine XS.iload X188.here hx rfl (hb hby d1_208) rfl ?_
    show Steps p.tables e below (T188.setTop (mkF m 210 #[.val (.ref a1), .val (.int (2 : Int32)), .val (.ref a3), .val (.ref a4), .val (.ref a5), .val (.ref a6), .val (.int (2 : Int32)), .val (.ref b152), .val (.int (0 : Int32)), .val (.int (0 : Int32)), .val (.int (2 : Int32))] [(.int (0 : Int32)), (.ref a4), (.int (0 : Int32)), (.ref b53)])) _
    refine X188.iaload hx (j := (0 : Int32)) (v := (.int (1 : Int32))) (by rw [e188]; exact A190.1) (State.isArrayOf_alike hZ.alike A190.2.1) A190.2.2 hin190 hat190 (g := (mkF m 210 #[.val (.ref a1), .val (.int (2 : Int32)), .val (.ref a3), .val (.ref a4), .val (.ref a5), .val (.ref a6), .val (.int (2 : Int32)), .val (.ref b152), .val (.int (0 : Int32)), .val (.int (0 : Int32)), .val (.int (2 : Int32))] [(.int (0 : Int32)), (.ref a4), (.int (0 : Int32)), (.ref b53)])) rfl rfl (hb hby d1_210) _ ?_
    show Steps p.tables e below (T188.setTop (mkF m 211 #[.val (.ref a1), .val (.int (2 : Int32)), .val (.ref a3), .val (.ref a4), .val (.ref a5), .val (.ref a6), .val (.int (2 : Int32)), .val (.ref b152), .val (.int (0 : Int32)), .val (.int (0 : Int32)), .val (.int (2 : Int32))] [(.int (1 : Int32)), (.int (0 : Int32)), (.ref b53)])) _
    refine st192 _ ?_
    show Steps p.tables e below (T192.setTop (mkF m 212 #[.val (.ref a1), .val (.int (2 : Int32)), .val (.ref a3), .val (.ref a4), .val (.ref a5), .val (.ref a6), .val (.int (2 : Int32)), .val (.ref b152), .val (.int (0 : Int32)), .val (.int (0 : Int32)), .val (.int (2 : Int32))] [])) _
    refine XS.aloadN X192.here hx rfl (hb hby d1_212) rfl rfl ?_
    show Steps p.tables e below (T192.setTop (mkF m 213 #[.val (.ref a1), .val (.int (2 : Int32)), .val (.ref a3), .val (.ref a4), .val (.ref a5), .val (.ref a6), .val (.int (2 : Int32)), .val (.ref b152), .val (.int (0 : Int32)), .val (.int (0 : Int32)), .val (.int (2 : Int32))] [(.ref a1)])) _
    refine st194 _ ?_
    show Steps p.tables e below (T194.setTop (mkF m 216 #[.val (.ref a1), .val (.int (2 : Int32)), .val (.ref a3), .val (.ref a4), .val (.ref a5), .val (.ref a6), .val (.int (2 : Int32)), .val (.ref b152), .val (.int (0 : Int32)), .val (.int (0 : Int32)), .val (.int (2 : Int32))] [(.ref b53)])) _
    refine XS.iload X194.here hx rfl (hb hby d1_216) rfl ?_
    show Steps p.tables e below (T194.setTop (mkF m 218 #[.val (.ref a1), .val (.int (2 : Int32)), .val (.ref a3), .val (.ref a4), .val (.ref a5), .val (.ref a6), .val (.int (2 : Int32)), .val (.ref b152), .val (.int (0 : Int32)), .val (.int (0 : Int32)), .val (.int (2 : Int32))] [(.int (2 : Int32)), (.ref b53)])) _
    refine XS.aloadN X194.here hx rfl (hb hby d1_218) rfl rfl ?_
    show Steps p.tables e below (T194.setTop (mkF m 219 #[.val (.ref a1), .val (.int (2 : Int32)), .val (.ref a3), .val (.ref a4), .val (.ref a5), .val (.ref a6), .val (.int (2 : Int32)), .val (.ref b152), .val (.int (0 : Int32)), .val (.int (0 : Int32)), .val (.int (2 : Int32))] [(.ref a3), (.int (2 : Int32)), (.ref b53)])) _
    refine XS.iload X194.here hx rfl (hb hby d1_219) rfl ?_
    show Steps p.tables e below (T194.setTop (mkF m 221 #[.val (.ref a1), .val (.int (2 : Int32)), .val (.ref a3), .val (.ref a4), .val (.ref a5), .val (.ref a6), .val (.int (2 : Int32)), .val (.ref b152), .val (.int (0 : Int32)), .val (.int (0 : Int32)), .val (.int (2 : Int32))] [(.int (0 : Int32)), (.ref a3), (.int (2 : Int32)), (.ref b53)])) _
    refine X194.iaload hx (j := (0 : Int32)) (v := (.int (0 : Int32))) (by rw [e194]; exact A196.1) (State.isArrayOf_alike hZ.alike A196.2.1) A196.2.2 hin196 hat196 (g := (mkF m 221 #[.val (.ref a1), .val (.int (2 : Int32)), .val (.ref a3), .val (.ref a4), .val (.ref a5), .val (.ref a6), .val (.int (2 : Int32)), .val (.ref b152), .val (.int (0 : Int32)), .val (.int (0 : Int32)), .val (.int (2 : Int32))] [(.int (0 : Int32)), (.ref a3), (.int (2 : Int32)), (.ref b53)])) rfl rfl (hb hby d1_221) _ ?_
    show Steps p.tables e below (T194.setTop (mkF m 222 #[.val (.ref a1), .val (.int (2 : Int32)), .val (.ref a3), .val (.ref a4), .val (.ref a5), .val (.ref a6), .val (.int (2 : Int32)), .val (.ref b152), .val (.int (0 : Int32)), .val (.int (0 : Int32)), .val (.int (2 : Int32))] [(.int (0 : Int32)), (.int (2 : Int32)), (.ref b53)])) _
    refine st198 _ ?_
    show Steps p.tables e below (T198.setTop (mkF m 223 #[.val (.ref a1), .val (.int (2 : Int32)), .val (.ref a3), .val (.ref a4), .val (.ref a5), .val (.ref a6), .val (.int (2 : Int32)), .val (.ref b152), .val (.int (0 : Int32)), .val (.int (0 : Int32)), .val (.int (2 : Int32))] [])) _
    refine XS.aloadN X198.here hx rfl (hb hby d1_223) rfl rfl ?_
    show Steps p.tables e below (T198.setTop (mkF m 224 #[.val (.ref a1), .val (.int (2 : Int32)), .val (.ref a3), .val (.ref a4), .val (.ref a5), .val (.ref a6), .val (.int (2 : Int32)), .val (.ref b152), .val (.int (0 : Int32)), .val (.int (0 : Int32)), .val (.int (2 : Int32))] [(.ref a1)])) _
    refine st199 _ ?_
    show Steps p.tables e below (T199.setTop (mkF m 227 #[.val (.ref a1), .val (.int (2 : Int32)), .val (.ref a3), .val (.ref a4), .val (.ref a5), .val (.ref a6), .val (.int (2 : Int32)), .val (.ref b152), .val (.int (0 : Int32)), .val (.int (0 : Int32)), .val (.int (2 : Int32))] [(.ref b68)])) _
    refine XS.iload X199.here hx rfl (hb hby d1_227) rfl ?_
    show Steps p.tables e below (T199.setTop (mkF m 229 #[.val (.ref a1), .val (.int (2 : Int32)), .val (.ref a3), .val (.ref a4), .val (.ref a5), .val (.ref a6), .val (.int (2 : Int32)), .val (.ref b152), .val (.int (0 : Int32)), .val (.int (0 : Int32)), .val (.int (2 : Int32))] [(.int (0 : Int32)), (.ref b68)])) _
    refine XS.iload X199.here hx rfl (hb hby d1_229) rfl ?_
    show Steps p.tables e below (T199.setTop (mkF m 231 #[.val (.ref a1), .val (.int (2 : Int32)), .val (.ref a3), .val (.ref a4), .val (.ref a5), .val (.ref a6), .val (.int (2 : Int32)), .val (.ref b152), .val (.int (0 : Int32)), .val (.int (0 : Int32)), .val (.int (2 : Int32))] [(.int (2 : Int32)), (.int (0 : Int32)), (.ref b68)])) _
    refine st201 _ ?_
    show Steps p.tables e below (T201.setTop (mkF m 232 #[.val (.ref a1), .val (.int (2 : Int32)), .val (.ref a3), .val (.ref a4), .val (.ref a5), .val (.ref a6), .val (.int (2 : Int32)), .val (.ref b152), .val (.int (0 : Int32)), .val (.int (0 : Int32)), .val (.int (2 : Int32))] [])) _
    refine XS.aloadN X201.here hx rfl (hb hby d1_232) rfl rfl ?_
    show Steps p.tables e below (T201.setTop (mkF m 233 #[.val (.ref a1), .val (.int (2 : Int32)), .val (.ref a3), .val (.ref a4), .val (.ref a5), .val (.ref a6), .val (.int (2 : Int32)), .val (.ref b152), .val (.int (0 : Int32)), .val (.int (0 : Int32)), .val (.int (2 : Int32))] [(.ref a1)])) _
    refine st203 _ ?_
    show Steps p.tables e below (T203.setTop (mkF m 236 #[.val (.ref a1), .val (.int (2 : Int32)), .val (.ref a3), .val (.ref a4), .val (.ref a5), .val (.ref a6), .val (.int (2 : Int32)), .val (.ref b152), .val (.int (0 : Int32)), .val (.int (0 : Int32)), .val (.int (2 : Int32))] [(.ref b68)])) _
    refine XS.iload X203.here hx rfl (hb hby d1_236) rfl ?_
    show Steps p.tables e below (T203.setTop (mkF m 238 #[.val (.ref a1), .val (.int (2 : Int32)), .val (.ref a3), .val (.ref a4), .val (.ref a5), .val (.ref a6), .val (.int (2 : Int32)), .val (.ref b152), .val (.int (0 : Int32)), .val (.int (0 : Int32)), .val (.int (2 : Int32))] [(.int (2 : Int32)), (.ref b68)])) _
    refine XS.iload X203.here hx rfl (hb hby d1_238) rfl ?_
    show Steps p.tables e below (T203.setTop (mkF m 240 #[.val (.ref a1), .val (.int (2 : Int32)), .val (.ref a3), .val (.ref a4), .val (.ref a5), .val (.ref a6), .val (.int (2 : Int32)), .val (.ref b152), .val (.int (0 : Int32)), .val (.int (0 : Int32)), .val (.int (2 : Int32))] [(.int (0 : Int32)), (.int (2 : Int32)), (.ref b68)])) _
    refine st205 _ ?_
    show Steps p.tables e below (T205.setTop (mkF m 241 #[.val (.ref a1), .val (.int (2 : Int32)), .val (.ref a3), .val (.ref a4), .val (.ref a5), .val (.ref a6), .val (.int (2 : Int32)), .val (.ref b152), .val (.int (0 : Int32)), .val (.int (0 : Int32)), .val (.int (2 : Int32))] [])) _
    refine XS.aloadN X205.here hx rfl (hb hby d1_241) rfl rfl ?_
    show Steps p.tables e below (T205.setTop (mkF m 242 #[.val (.ref a1), .val (.int (2 : Int32)), .val (.ref a3), .val (.ref a4), .val (.ref a5), .val (.ref a6), .val (.int (2 : Int32)), .val (.ref b152), .val (.int (0 : Int32)), .val (.int (0 : Int32)), .val (.int (2 : Int32))] [(.ref a1)])) _
    refine st206 _ ?_
    show Steps p.tables e below (T206.setTop (mkF m 245 #[.val (.ref a1), .val (.int (2 : Int32)), .val (.ref a3), .val (.ref a4), .val (.ref a5), .val (.ref a6), .val (.int (2 : Int32)), .val (.ref b152), .val (.int (0 : Int32)), .val (.int (0 : Int32)), .val (.int (2 : Int32))] [(.ref b86)])) _
    refine XS.iload X206.here hx rfl (hb hby d1_245) rfl ?_
    show Steps p.tables e below (T206.setTop (mkF m 247 #[.val (.ref a1), .val (.int (2 : Int32)), .val (.ref a3), .val (.ref a4), .val (.ref a5), .val (.ref a6), .val (.int (2 : Int32)), .val (.ref b152), .val (.int (0 : Int32)), .val (.int (0 : Int32)), .val (.int (2 : Int32))] [(.int (0 : Int32)), (.ref b86)])) _
    refine XS.aload X206.here hx rfl (hb hby d1_247) rfl rfl ?_
    show Steps p.tables e below (T206.setTop (mkF m 249 #[.val (.ref a1), .val (.int (2 : Int32)), .val (.ref a3), .val (.ref a4), .val (.ref a5), .val (.ref a6), .val (.int (2 : Int32)), .val (.ref b152), .val (.int (0 : Int32)), .val (.int (0 : Int32)), .val (.int (2 : Int32))] [(.ref a5), (.int (0 : Int32)), (.ref b86)])) _
    refine XS.iload X206.here hx rfl (hb hby d1_249) rfl ?_
    show Steps p.tables e below (T206.setTop (mkF m 251 #[.val (.ref a1), .val (.int (2 : Int32)), .val (.ref a3), .val (.ref a4), .val (.ref a5), .val (.ref a6), .val (.int (2 : Int32)), .val (.ref b152), .val (.int (0 : Int32)), .val (.int (0 : Int32)), .val (.int (2 : Int32))] [(.int (0 : Int32)), (.ref a5), (.int (0 : Int32)), (.ref b86)])) _
    refine X206.iaload hx (j := (0 : Int32)) (v := (.int x1)) (by rw [e206]; exact A208.1) (State.isArrayOf_alike hZ.alike A208.2.1) A208.2.2 hin208 hat208 (g := (mkF m 251 #[.val (.ref a1), .val (.int (2 : Int32)), .val (.ref a3), .val (.ref a4), .val (.ref a5), .val (.ref a6), .val (.int (2 : Int32)), .val (.ref b152), .val (.int (0 : Int32)), .val (.int (0 : Int32)), .val (.int (2 : Int32))] [(.int (0 : Int32)), (.ref a5), (.int (0 : Int32)), (.ref b86)])) rfl rfl (hb hby d1_251) _ ?_
    show Steps p.tables e below (T206.setTop (mkF m 252 #[.val (.ref a1), .val (.int (2 : Int32)), .val (.ref a3), .val (.ref a4), .val (.ref a5), .val (.ref a6), .val (.int (2 : Int32)), .val (.ref b152), .val (.int (0 : Int32)), .val (.int (0 : Int32)), .val (.int (2 : Int32))] [(.int x1), (.int (0 : Int32)), (.ref b86)])) _
    refine st210 _ ?_
    show Steps p.tables e below (T210.setTop (mkF m 253 #[.val (.ref a1), .val (.int (2 : Int32)), .val (.ref a3), .val (.ref a4), .val (.ref a5), .val (.ref a6), .val (.int (2 : Int32)), .val (.ref b152), .val (.int (0 : Int32)), .val (.int (0 : Int32)), .val (.int (2 : Int32))] [])) _
    refine XS.aloadN X210.here hx rfl (hb hby d1_253) rfl rfl ?_
    show Steps p.tables e below (T210.setTop (mkF m 254 #[.val (.ref a1), .val (.int (2 : Int32)), .val (.ref a3), .val (.ref a4), .val (.ref a5), .val (.ref a6), .val (.int (2 : Int32)), .val (.ref b152), .val (.int (0 : Int32)), .val (.int (0 : Int32)), .val (.int (2 : Int32))] [(.ref a1)])) _
    refine st212 _ ?_
    show Steps p.tables e below (T212.setTop (mkF m 257 #[.val (.ref a1), .val (.int (2 : Int32)), .val (.ref a3), .val (.ref a4), .val (.ref a5), .val (.ref a6), .val (.int (2 : Int32)), .val (.ref b152), .val (.int (0 : Int32)), .val (.int (0 : Int32)), .val (.int (2 : Int32))] [(.ref b106)])) _
    refine XS.iload X212.here hx rfl (hb hby d1_257) rfl ?_
    show Steps p.tables e below (T212.setTop (mkF m 259 #[.val (.ref a1), .val (.int (2 : Int32)), .val (.ref a3), .val (.ref a4), .val (.ref a5), .val (.ref a6), .val (.int (2 : Int32)), .val (.ref b152), .val (.int (0 : Int32)), .val (.int (0 : Int32)), .val (.int (2 : Int32))] [(.int (0 : Int32)), (.ref b106)])) _
    refine XS.aload X212.here hx rfl (hb hby d1_259) rfl rfl ?_
    show Steps p.tables e below (T212.setTop (mkF m 261 #[.val (.ref a1), .val (.int (2 : Int32)), .val (.ref a3), .val (.ref a4), .val (.ref a5), .val (.ref a6), .val (.int (2 : Int32)), .val (.ref b152), .val (.int (0 : Int32)), .val (.int (0 : Int32)), .val (.int (2 : Int32))] [(.ref a6), (.int (0 : Int32)), (.ref b106)])) _
    refine XS.iload X212.here hx rfl (hb hby d1_261) rfl ?_
    show Steps p.tables e below (T212.setTop (mkF m 263 #[.val (.ref a1), .val (.int (2 : Int32)), .val (.ref a3), .val (.ref a4), .val (.ref a5), .val (.ref a6), .val (.int (2 : Int32)), .val (.ref b152), .val (.int (0 : Int32)), .val (.int (0 : Int32)), .val (.int (2 : Int32))] [(.int (0 : Int32)), (.ref a6), (.int (0 : Int32)), (.ref b106)])) _
    refine X212.laload hx (j := (0 : Int32)) (v := (.long (5 : Int64))) (by rw [e212]; exact A214.1) (State.isArrayOf_alike hZ.alike A214.2.1) A214.2.2 hin214 hat214 (g := (mkF m 263 #[.val (.ref a1), .val (.int (2 : Int32)), .val (.ref a3), .val (.ref a4), .val (.ref a5), .val (.ref a6), .val (.int (2 : Int32)), .val (.ref b152), .val (.int (0 : Int32)), .val (.int (0 : Int32)), .val (.int (2 : Int32))] [(.int (0 : Int32)), (.ref a6), (.int (0 : Int32)), (.ref b106)])) rfl rfl (hb hby d1_263) _ ?_
    show Steps p.tables e below (T212.setTop (mkF m 264 #[.val (.ref a1), .val (.int (2 : Int32)), .val (.ref a3), .val (.ref a4), .val (.ref a5), .val (.ref a6), .val (.int (2 : Int32)), .val (.ref b152), .val (.int (0 : Int32)), .val (.int (0 : Int32)), .val (.int (2 : Int32))] [(.long (5 : Int64)), (.int (0 : Int32)), (.ref b106)])) _
    refine st216 _ ?_
    show Steps p.tables e below (T216.setTop (mkF m 265 #[.val (.ref a1), .val (.int (2 : Int32)), .val (.ref a3), .val (.ref a4), .val (.ref a5), .val (.ref a6), .val (.int (2 : Int32)), .val (.ref b152), .val (.int (0 : Int32)), .val (.int (0 : Int32)), .val (.int (2 : Int32))] [])) _
    refine XS.aloadN X216.here hx rfl (hb hby d1_265) rfl rfl ?_
    show Steps p.tables e below (T216.setTop (mkF m 266 #[.val (.ref a1), .val (.int (2 : Int32)), .val (.ref a3), .val (.ref a4), .val (.ref a5), .val (.ref a6), .val (.int (2 : Int32)), .val (.ref b152), .val (.int (0 : Int32)), .val (.int (0 : Int32)), .val (.int (2 : Int32))] [(.ref a1)])) _
    refine st218 _ ?_
    show Steps p.tables e below (T218.setTop (mkF m 269 #[.val (.ref a1), .val (.int (2 : Int32)), .val (.ref a3), .val (.ref a4), .val (.ref a5), .val (.ref a6), .val (.int (2 : Int32)), .val (.ref b152), .val (.int (0 : Int32)), .val (.int (0 : Int32)), .val (.int (2 : Int32))] [(.ref b106)])) _
    refine XS.iload X218.here hx rfl (hb hby d1_269) rfl ?_
    show Steps p.tables e below (T218.setTop (mkF m 271 #[.val (.ref a1), .val (.int (2 : Int32)), .val (.ref a3), .val (.ref a4), .val (.ref a5), .val (.ref a6), .val (.int (2 : Int32)), .val (.ref b152), .val (.int (0 : Int32)), .val (.int (0 : Int32)), .val (.int (2 : Int32))] [(.int (2 : Int32)), (.ref b106)])) _
    refine XS.aload X218.here hx rfl (hb hby d1_271) rfl rfl ?_
    show Steps p.tables e below (T218.setTop (mkF m 273 #[.val (.ref a1), .val (.int (2 : Int32)), .val (.ref a3), .val (.ref a4), .val (.ref a5), .val (.ref a6), .val (.int (2 : Int32)), .val (.ref b152), .val (.int (0 : Int32)), .val (.int (0 : Int32)), .val (.int (2 : Int32))] [(.ref a6), (.int (2 : Int32)), (.ref b106)])) _
    refine XS.iload X218.here hx rfl (hb hby d1_273) rfl ?_
    show Steps p.tables e below (T218.setTop (mkF m 275 #[.val (.ref a1), .val (.int (2 : Int32)), .val (.ref a3), .val (.ref a4), .val (.ref a5), .val (.ref a6), .val (.int (2 : Int32)), .val (.ref b152), .val (.int (0 : Int32)), .val (.int (0 : Int32)), .val (.int (2 : Int32))] [(.int (0 : Int32)), (.ref a6), (.int (2 : Int32)), (.ref b106)])) _
    refine X218.laload hx (j := (0 : Int32)) (v := (.long (5 : Int64))) (by rw [e218]; exact A220.1) (State.isArrayOf_alike hZ.alike A220.2.1) A220.2.2 hin220 hat220 (g := (mkF m 275 #[.val (.ref a1), .val (.int (2 : Int32)), .val (.ref a3), .val (.ref a4), .val (.ref a5), .val (.ref a6), .val (.int (2 : Int32)), .val (.ref b152), .val (.int (0 : Int32)), .val (.int (0 : Int32)), .val (.int (2 : Int32))] [(.int (0 : Int32)), (.ref a6), (.int (2 : Int32)), (.ref b106)])) rfl rfl (hb hby d1_275) _ ?_
    show Steps p.tables e below (T218.setTop (mkF m 276 #[.val (.ref a1), .val (.int (2 : Int32)), .val (.ref a3), .val (.ref a4), .val (.ref a5), .val (.ref a6), .val (.int (2 : Int32)), .val (.ref b152), .val (.int (0 : Int32)), .val (.int (0 : Int32)), .val (.int (2 : Int32))] [(.long (5 : Int64)), (.int (2 : Int32)), (.ref b106)])) _
    refine XS.lneg X218.here hx rfl (hb hby d1_276) rfl ?_
    show Steps p.tables e below (T218.setTop (mkF m 277 #[.val (.ref a1), .val (.int (2 : Int32)), .val (.ref a3), .val (.ref a4), .val (.ref a5), .val (.ref a6), .val (.int (2 : Int32)), .val (.ref b152), .val (.int (0 : Int32)), .val (.int (0 : Int32)), .val (.int (2 : Int32))] [(.long (-5 : Int64)), (.int (2 : Int32)), (.ref b106)])) _
    refine st222 _ ?_
    show Steps p.tables e below (T222.setTop (mkF m 278 #[.val (.ref a1), .val (.int (2 : Int32)), .val (.ref a3), .val (.ref a4), .val (.ref a5), .val (.ref a6), .val (.int (2 : Int32)), .val (.ref b152), .val (.int (0 : Int32)), .val (.int (0 : Int32)), .val (.int (2 : Int32))] [])) _
    refine XS.aloadN X222.here hx rfl (hb hby d1_278) rfl rfl ?_
    show Steps p.tables e below (T222.setTop (mkF m 279 #[.val (.ref a1), .val (.int (2 : Int32)), .val (.ref a3), .val (.ref a4), .val (.ref a5), .val (.ref a6), .val (.int (2 : Int32)), .val (.ref b152), .val (.int (0 : Int32)), .val (.int (0 : Int32)), .val (.int (2 : Int32))] [(.ref a1)])) _
    refine st223 _ ?_
    show Steps p.tables e below (T223.setTop (mkF m 282 #[.val (.ref a1), .val (.int (2 : Int32)), .val (.ref a3), .val (.ref a4), .val (.ref a5), .val (.ref a6), .val (.int (2 : Int32)), .val (.ref b152), .val (.int (0 : Int32)), .val (.int (0 : Int32)), .val (.int (2 : Int32))] [(.ref b128)])) _
    refine XS.iload X223.here hx rfl (hb hby d1_282) rfl ?_
    show Steps p.tables e below (T223.setTop (mkF m 284 #[.val (.ref a1), .val (.int (2 : Int32)), .val (.ref a3), .val (.ref a4), .val (.ref a5), .val (.ref a6), .val (.int (2 : Int32)), .val (.ref b152), .val (.int (0 : Int32)), .val (.int (0 : Int32)), .val (.int (2 : Int32))] [(.int (0 : Int32)), (.ref b128)])) _
    refine XS.iload X223.here hx rfl (hb hby d1_284) rfl ?_
    show Steps p.tables e below (T223.setTop (mkF m 286 #[.val (.ref a1), .val (.int (2 : Int32)), .val (.ref a3), .val (.ref a4), .val (.ref a5), .val (.ref a6), .val (.int (2 : Int32)), .val (.ref b152), .val (.int (0 : Int32)), .val (.int (0 : Int32)), .val (.int (2 : Int32))] [(.int (0 : Int32)), (.int (0 : Int32)), (.ref b128)])) _
    refine st225 _ ?_
    show Steps p.tables e below (T225.setTop (mkF m 287 #[.val (.ref a1), .val (.int (2 : Int32)), .val (.ref a3), .val (.ref a4), .val (.ref a5), .val (.ref a6), .val (.int (2 : Int32)), .val (.ref b152), .val (.int (0 : Int32)), .val (.int (0 : Int32)), .val (.int (2 : Int32))] [])) _
    refine XS.iinc X225.here hx rfl (hb hby d1_287) rfl (l' := #[.val (.ref a1), .val (.int (2 : Int32)), .val (.ref a3), .val (.ref a4), .val (.ref a5), .val (.ref a6), .val (.int (2 : Int32)), .val (.ref b152), .val (.int (1 : Int32)), .val (.int (0 : Int32)), .val (.int (2 : Int32))]) rfl ?_
    show Steps p.tables e below (T225.setTop (mkF m 290 #[.val (.ref a1), .val (.int (2 : Int32)), .val (.ref a3), .val (.ref a4), .val (.ref a5), .val (.ref a6), .val (.int (2 : Int32)), .val (.ref b152), .val (.int (1 : Int32)), .val (.int (0 : Int32)), .val (.int (2 : Int32))] [])) _
    refine XS.goto X225.here hx rfl (pc0 := 290) (pc' := 166) rfl (hb hby d1_290) (by decide) (by decide) ?_
    show Steps p.tables e below (T225.setTop (mkF m 166 #[.val (.ref a1), .val (.int (2 : Int32)), .val (.ref a3), .val (.ref a4), .val (.ref a5), .val (.ref a6), .val (.int (2 : Int32)), .val (.ref b152), .val (.int (1 : Int32)), .val (.int (0 : Int32)), .val (.int (2 : Int32))] [])) _
    refine XS.iload X225.here hx rfl (hb hby d1_166) rfl ?_
    show Steps p.tables e below (T225.setTop (mkF m 168 #[.val (.ref a1), .val (.int (2 : Int32)), .val (.ref a3), .val (.ref a4), .val (.ref a5), .val (.ref a6), .val (.int (2 : Int32)), .val (.ref b152), .val (.int (1 : Int32)), .val (.int (0 : Int32)), .val (.int (2 : Int32))] [(.int (1 : Int32))])) _
    refine XS.iload X225.here hx rfl (hb hby d1_168) rfl ?_
    show Steps p.tables e below (T225.setTop (mkF m 170 #[.val (.ref a1), .val (.int (2 : Int32)), .val (.ref a3), .val (.ref a4), .val (.ref a5), .val (.ref a6), .val (.int (2 : Int32)), .val (.ref b152), .val (.int (1 : Int32)), .val (.int (0 : Int32)), .val (.int (2 : Int32))] [(.int (2 : Int32)), (.int (1 : Int32))])) _
    refine XS.icmpNo X225.here hx rfl (hb hby d1_170) rfl (tlt (by decide : (1 : Int32) < (2 : Int32))).2.1 ?_
    show Steps p.tables e below (T225.setTop (mkF m 173 #[.val (.ref a1), .val (.int (2 : Int32)), .val (.ref a3), .val (.ref a4), .val (.ref a5), .val (.ref a6), .val (.int (2 : Int32)), .val (.ref b152), .val (.int (1 : Int32)), .val (.int (0 : Int32)), .val (.int (2 : Int32))] [])) _
    refine XS.aload X225.here hx rfl (hb hby d1_173) rfl rfl ?_
    show Steps p.tables e below (T225.setTop (mkF m 175 #[.val (.ref a1), .val (.int (2 : Int32)), .val (.ref a3), .val (.ref a4), .val (.ref a5), .val (.ref a6), .val (.int (2 : Int32)), .val (.ref b152), .val (.int (1 : Int32)), .val (.int (0 : Int32)), .val (.int (2 : Int32))] [(.ref b152)])) _
    refine XS.aloadN X225.here hx rfl (hb hby d1_175) rfl rfl ?_
    show Steps p.tables e below (T225.setTop (mkF m 176 #[.val (.ref a1), .val (.int (2 : Int32)), .val (.ref a3), .val (.ref a4), .val (.ref a5), .val (.ref a6), .val (.int (2 : Int32)), .val (.ref b152), .val (.int (1 : Int32)), .val (.int (0 : Int32)), .val (.int (2 : Int32))] [(.ref a3), (.ref b152)])) _
    refine XS.iload X225.here hx rfl (hb hby d1_176) rfl ?_
    show Steps p.tables e below (T225.setTop (mkF m 178 #[.val (.ref a1), .val (.int (2 : Int32)), .val (.ref a3), .val (.ref a4), .val (.ref a5), .val (.ref a6), .val (.int (2 : Int32)), .val (.ref b152), .val (.int (1 : Int32)), .val (.int (0 : Int32)), .val (.int (2 : Int32))] [(.int (1 : Int32)), (.ref a3), (.ref b152)])) _
    refine X225.iaload hx (j := (1 : Int32)) (v := (.int (1 : Int32))) (by rw [e225]; exact A227.1) (State.isArrayOf_alike hZ.alike A227.2.1) A227.2.2 hin227 hat227 (g := (mkF m 178 #[.val (.ref a1), .val (.int (2 : Int32)), .val (.ref a3), .val (.ref a4), .val (.ref a5), .val (.ref a6), .val (.int (2 : Int32)), .val (.ref b152), .val (.int (1 : Int32)), .val (.int (0 : Int32)), .val (.int (2 : Int32))] [(.int (1 : Int32)), (.ref a3), (.ref b152)])) rfl rfl (hb hby d1_178) _ ?_
    show Steps p.tables e below (T225.setTop (mkF m 179 #[.val (.ref a1), .val (.int (2 : Int32)), .val (.ref a3), .val (.ref a4), .val (.ref a5), .val (.ref a6), .val (.int (2 : Int32)), .val (.ref b152), .val (.int (1 : Int32)), .val (.int (0 : Int32)), .val (.int (2 : Int32))] [(.int (1 : Int32)), (.ref b152)])) _
    jvm_step X225.here [X225.here.top, hx, (hb hby d1_179), Value.category]
    show Steps p.tables e below (T225.setTop (mkF m 180 #[.val (.ref a1), .val (.int (2 : Int32)), .val (.ref a3), .val (.ref a4), .val (.ref a5), .val (.ref a6), .val (.int (2 : Int32)), .val (.ref b152), .val (.int (1 : Int32)), .val (.int (0 : Int32)), .val (.int (2 : Int32))] [(.int (1 : Int32)), (.ref b152), (.int (1 : Int32)), (.ref b152)])) _
    refine X225.iaload hx (j := (1 : Int32)) (v := (.int (3 : Int32))) (by rw [e225]; exact A229.1) (State.isArrayOf_alike hZ.alike A229.2.1) A229.2.2 hin229 hat229 (g := (mkF m 180 #[.val (.ref a1), .val (.int (2 : Int32)), .val (.ref a3), .val (.ref a4), .val (.ref a5), .val (.ref a6), .val (.int (2 : Int32)), .val (.ref b152), .val (.int (1 : Int32)), .val (.int (0 : Int32)), .val (.int (2 : Int32))] [(.int (1 : Int32)), (.ref b152), (.int (1 : Int32)), (.ref b152)])) rfl rfl (hb hby d1_180) _ ?_
    show Steps p.tables e below (T225.setTop (mkF m 181 #[.val (.ref a1), .val (.int (2 : Int32)), .val (.ref a3), .val (.ref a4), .val (.ref a5), .val (.ref a6), .val (.int (2 : Int32)), .val (.ref b152), .val (.int (1 : Int32)), .val (.int (0 : Int32)), .val (.int (2 : Int32))] [(.int (3 : Int32)), (.int (1 : Int32)), (.ref b152)])) _
    jvm_step X225.here [X225.here.top, hx, (hb hby d1_181), Value.category]
    show Steps p.tables e below (T225.setTop (mkF m 182 #[.val (.ref a1), .val (.int (2 : Int32)), .val (.ref a3), .val (.ref a4), .val (.ref a5), .val (.ref a6), .val (.int (2 : Int32)), .val (.ref b152), .val (.int (1 : Int32)), .val (.int (0 : Int32)), .val (.int (2 : Int32))] [(.int (3 : Int32)), (.int (1 : Int32)), (.ref b152), (.int (3 : Int32))])) _
    refine XS.iconst X225.here hx rfl (hb hby d1_182) ?_
    show Steps p.tables e below (T225.setTop (mkF m 183 #[.val (.ref a1), .val (.int (2 : Int32)), .val (.ref a3), .val (.ref a4), .val (.ref a5), .val (.ref a6), .val (.int (2 : Int32)), .val (.ref b152), .val (.int (1 : Int32)), .val (.int (0 : Int32)), .val (.int (2 : Int32))] [(.int (1 : Int32)), (.int (3 : Int32)), (.int (1 : Int32)), (.ref b152), (.int (3 : Int32))])) _
    refine XS.iadd X225.here hx rfl (hb hby d1_183) rfl ?_
    show Steps p.tables e below (T225.setTop (mkF m 184 #[.val (.ref a1), .val (.int (2 : Int32)), .val (.ref a3), .val (.ref a4), .val (.ref a5), .val (.ref a6), .val (.int (2 : Int32)), .val (.ref b152), .val (.int (1 : Int32)), .val (.int (0 : Int32)), .val (.int (2 : Int32))] [(.int (4 : Int32)), (.int (1 : Int32)), (.ref b152), (.int (3 : Int32))])) _
    refine st231 _ ?_
    show Steps p.tables e below (T231.setTop (mkF m 185 #[.val (.ref a1), .val (.int (2 : Int32)), .val (.ref a3), .val (.ref a4), .val (.ref a5), .val (.ref a6), .val (.int (2 : Int32)), .val (.ref b152), .val (.int (1 : Int32)), .val (.int (0 : Int32)), .val (.int (2 : Int32))] [(.int (3 : Int32))])) _
    refine XS.istore X231.here hx rfl (hb hby d1_185) rfl (l' := #[.val (.ref a1), .val (.int (2 : Int32)), .val (.ref a3), .val (.ref a4), .val (.ref a5), .val (.ref a6), .val (.int (2 : Int32)), .val (.ref b152), .val (.int (1 : Int32)), .val (.int (3 : Int32)), .val (.int (2 : Int32))]) rfl ?_
    show Steps p.tables e below (T231.setTop (mkF m 187 #[.val (.ref a1), .val (.int (2 : Int32)), .val (.ref a3), .val (.ref a4), .val (.ref a5), .val (.ref a6), .val (.int (2 : Int32)), .val (.ref b152), .val (.int (1 : Int32)), .val (.int (3 : Int32)), .val (.int (2 : Int32))] [])) _
    refine XS.aload X231.here hx rfl (hb hby d1_187) rfl rfl ?_
    show Steps p.tables e below (T231.setTop (mkF m 189 #[.val (.ref a1), .val (.int (2 : Int32)), .val (.ref a3), .val (.ref a4), .val (.ref a5), .val (.ref a6), .val (.int (2 : Int32)), .val (.ref b152), .val (.int (1 : Int32)), .val (.int (3 : Int32)), .val (.int (2 : Int32))] [(.ref b152)])) _
    refine XS.aloadN X231.here hx rfl (hb hby d1_189) rfl rfl ?_
    show Steps p.tables e below (T231.setTop (mkF m 190 #[.val (.ref a1), .val (.int (2 : Int32)), .val (.ref a3), .val (.ref a4), .val (.ref a5), .val (.ref a6), .val (.int (2 : Int32)), .val (.ref b152), .val (.int (1 : Int32)), .val (.int (3 : Int32)), .val (.int (2 : Int32))] [(.ref a4), (.ref b152)])) _
    refine XS.iload X231.here hx rfl (hb hby d1_190) rfl ?_
    show Steps p.tables e below (T231.setTop (mkF m 192 #[.val (.ref a1), .val (.int (2 : Int32)), .val (.ref a3), .val (.ref a4), .val (.ref a5), .val (.ref a6), .val (.int (2 : Int32)), .val (.ref b152), .val (.int (1 : Int32)), .val (.int (3 : Int32)), .val (.int (2 : Int32))] [(.int (1 : Int32)), (.ref a4), (.ref b152)])) _
    refine X231.iaload hx (j := (1 : Int32)) (v := (.int (0 : Int32))) (by rw [e231]; exact A232.1) (State.isArrayOf_alike hZ.alike A232.2.1) A232.2.2 hin232 hat232 (g := (mkF m 192 #[.val (.ref a1), .val (.int (2 : Int32)), .val (.ref a3), .val (.ref a4), .val (.ref a5), .val (.ref a6), .val (.int (2 : Int32)), .val (.ref b152), .val (.int (1 : Int32)), .val (.int (3 : Int32)), .val (.int (2 : Int32))] [(.int (1 : Int32)), (.ref a4), (.ref b152)])) rfl rfl (hb hby d1_192) _ ?_
    show Steps p.tables e below (T231.setTop (mkF m 193 #[.val (.ref a1), .val (.int (2 : Int32)), .val (.ref a3), .val (.ref a4), .val (.ref a5), .val (.ref a6), .val (.int (2 : Int32)), .val (.ref b152), .val (.int (1 : Int32)), .val (.int (3 : Int32)), .val (.int (2 : Int32))] [(.int (0 : Int32)), (.ref b152)])) _
    jvm_step X231.here [X231.here.top, hx, (hb hby d1_193), Value.category]
    show Steps p.tables e below (T231.setTop (mkF m 194 #[.val (.ref a1), .val (.int (2 : Int32)), .val (.ref a3), .val (.ref a4), .val (.ref a5), .val (.ref a6), .val (.int (2 : Int32)), .val (.ref b152), .val (.int (1 : Int32)), .val (.int (3 : Int32)), .val (.int (2 : Int32))] [(.int (0 : Int32)), (.ref b152), (.int (0 : Int32)), (.ref b152)])) _
    refine X231.iaload hx (j := (0 : Int32)) (v := (.int (1 : Int32))) (by rw [e231]; exact A234.1) (State.isArrayOf_alike hZ.alike A234.2.1) A234.2.2 hin234 hat234 (g := (mkF m 194 #[.val (.ref a1), .val (.int (2 : Int32)), .val (.ref a3), .val (.ref a4), .val (.ref a5), .val (.ref a6), .val (.int (2 : Int32)), .val (.ref b152), .val (.int (1 : Int32)), .val (.int (3 : Int32)), .val (.int (2 : Int32))] [(.int (0 : Int32)), (.ref b152), (.int (0 : Int32)), (.ref b152)])) rfl rfl (hb hby d1_194) _ ?_
    show Steps p.tables e below (T231.setTop (mkF m 195 #[.val (.ref a1), .val (.int (2 : Int32)), .val (.ref a3), .val (.ref a4), .val (.ref a5), .val (.ref a6), .val (.int (2 : Int32)), .val (.ref b152), .val (.int (1 : Int32)), .val (.int (3 : Int32)), .val (.int (2 : Int32))] [(.int (1 : Int32)), (.int (0 : Int32)), (.ref b152)])) _
    jvm_step X231.here [X231.here.top, hx, (hb hby d1_195), Value.category]
    show Steps p.tables e below (T231.setTop (mkF m 196 #[.val (.ref a1), .val (.int (2 : Int32)), .val (.ref a3), .val (.ref a4), .val (.ref a5), .val (.ref a6), .val (.int (2 : Int32)), .val (.ref b152), .val (.int (1 : Int32)), .val (.int (3 : Int32)), .val (.int (2 : Int32))] [(.int (1 : Int32)), (.int (0 : Int32)), (.ref b152), (.int (1 : Int32))])) _
    refine XS.iconst X231.here hx rfl (hb hby d1_196) ?_
    show Steps p.tables e below (T231.setTop (mkF m 197 #[.val (.ref a1), .val (.int (2 : Int32)), .val (.ref a3), .val (.ref a4), .val (.ref a5), .val (.ref a6), .val (.int (2 : Int32)), .val (.ref b152), .val (.int (1 : Int32)), .val (.int (3 : Int32)), .val (.int (2 : Int32))] [(.int (1 : Int32)), (.int (1 : Int32)), (.int (0 : Int32)), (.ref b152), (.int (1 : Int32))])) _
    refine XS.iadd X231.here hx rfl (hb hby d1_197) rfl ?_
    show Steps p.tables e below (T231.setTop (mkF m 198 #[.val (.ref a1), .val (.int (2 : Int32)), .val (.ref a3), .val (.ref a4), .val (.ref a5), .val (.ref a6), .val (.int (2 : Int32)), .val (.ref b152), .val (.int (1 : Int32)), .val (.int (3 : Int32)), .val (.int (2 : Int32))] [(.int (2 : Int32)), (.int (0 : Int32)), (.ref b152), (.int (1 : Int32))])) _
    refine st235 _ ?_
    show Steps p.tables e below (T235.setTop (mkF m 199 #[.val (.ref a1), .val (.int (2 : Int32)), .val (.ref a3), .val (.ref a4), .val (.ref a5), .val (.ref a6), .val (.int (2 : Int32)), .val (.ref b152), .val (.int (1 : Int32)), .val (.int (3 : Int32)), .val (.int (2 : Int32))] [(.int (1 : Int32))])) _
    refine XS.istore X235.here hx rfl (hb hby d1_199) rfl (l' := #[.val (.ref a1), .val (.int (2 : Int32)), .val (.ref a3), .val (.ref a4), .val (.ref a5), .val (.ref a6), .val (.int (2 : Int32)), .val (.ref b152), .val (.int (1 : Int32)), .val (.int (3 : Int32)), .val (.int (1 : Int32))]) rfl ?_
    show Steps p.tables e below (T235.setTop (mkF m 201 #[.val (.ref a1), .val (.int (2 : Int32)), .val (.ref a3), .val (.ref a4), .val (.ref a5), .val (.ref a6), .val (.int (2 : Int32)), .val (.ref b152), .val (.int (1 : Int32)), .val (.int (3 : Int32)), .val (.int (1 : Int32))] [])) _
    refine XS.aloadN X235.here hx rfl (hb hby d1_201) rfl rfl ?_
    show Steps p.tables e below (T235.setTop (mkF m 202 #[.val (.ref a1), .val (.int (2 : Int32)), .val (.ref a3), .val (.ref a4), .val (.ref a5), .val (.ref a6), .val (.int (2 : Int32)), .val (.ref b152), .val (.int (1 : Int32)), .val (.int (3 : Int32)), .val (.int (1 : Int32))] [(.ref a1)])) _
    refine st236 _ ?_
    show Steps p.tables e below (T236.setTop (mkF m 205 #[.val (.ref a1), .val (.int (2 : Int32)), .val (.ref a3), .val (.ref a4), .val (.ref a5), .val (.ref a6), .val (.int (2 : Int32)), .val (.ref b152), .val (.int (1 : Int32)), .val (.int (3 : Int32)), .val (.int (1 : Int32))] [(.ref b53)])) _
    refine XS.iload X236.here hx rfl (hb hby d1_205) rfl ?_
    show Steps p.tables e below (T236.setTop (mkF m 207 #[.val (.ref a1), .val (.int (2 : Int32)), .val (.ref a3), .val (.ref a4), .val (.ref a5), .val (.ref a6), .val (.int (2 : Int32)), .val (.ref b152), .val (.int (1 : Int32)), .val (.int (3 : Int32)), .val (.int (1 : Int32))] [(.int (3 : Int32)), (.ref b53)])) _
    refine XS.aloadN X236.here hx rfl (hb hby d1_207) rfl rfl ?_
    show Steps p.tables e below (T236.setTop (mkF m 208 #[.val (.ref a1), .val (.int (2 : Int32)), .val (.ref a3), .val (.ref a4), .val (.ref a5), .val (.ref a6), .val (.int (2 : Int32)), .val (.ref b152), .val (.int (1 : Int32)), .val (.int (3 : Int32)), .val (.int (1 : Int32))] [(.ref a4), (.int (3 : Int32)), (.ref b53)])) _
    refine XS.iload X236.here hx rfl (hb hby d1_208) rfl ?_
    show Steps p.tables e below (T236.setTop (mkF m 210 #[.val (.ref a1), .val (.int (2 : Int32)), .val (.ref a3), .val (.ref a4), .val (.ref a5), .val (.ref a6), .val (.int (2 : Int32)), .val (.ref b152), .val (.int (1 : Int32)), .val (.int (3 : Int32)), .val (.int (1 : Int32))] [(.int (1 : Int32)), (.ref a4), (.int (3 : Int32)), (.ref b53)])) _
    refine X236.iaload hx (j := (1 : Int32)) (v := (.int (0 : Int32))) (by rw [e236]; exact A238.1) (State.isArrayOf_alike hZ.alike A238.2.1) A238.2.2 hin238 hat238 (g := (mkF m 210 #[.val (.ref a1), .val (.int (2 : Int32)), .val (.ref a3), .val (.ref a4), .val (.ref a5), .val (.ref a6), .val (.int (2 : Int32)), .val (.ref b152), .val (.int (1 : Int32)), .val (.int (3 : Int32)), .val (.int (1 : Int32))] [(.int (1 : Int32)), (.ref a4), (.int (3 : Int32)), (.ref b53)])) rfl rfl (hb hby d1_210) _ ?_
    show Steps p.tables e below (T236.setTop (mkF m 211 #[.val (.ref a1), .val (.int (2 : Int32)), .val (.ref a3), .val (.ref a4), .val (.ref a5), .val (.ref a6), .val (.int (2 : Int32)), .val (.ref b152), .val (.int (1 : Int32)), .val (.int (3 : Int32)), .val (.int (1 : Int32))] [(.int (0 : Int32)), (.int (3 : Int32)), (.ref b53)])) _
    refine st240 _ ?_
    show Steps p.tables e below (T240.setTop (mkF m 212 #[.val (.ref a1), .val (.int (2 : Int32)), .val (.ref a3), .val (.ref a4), .val (.ref a5), .val (.ref a6), .val (.int (2 : Int32)), .val (.ref b152), .val (.int (1 : Int32)), .val (.int (3 : Int32)), .val (.int (1 : Int32))] [])) _
    refine XS.aloadN X240.here hx rfl (hb hby d1_212) rfl rfl ?_
    show Steps p.tables e below (T240.setTop (mkF m 213 #[.val (.ref a1), .val (.int (2 : Int32)), .val (.ref a3), .val (.ref a4), .val (.ref a5), .val (.ref a6), .val (.int (2 : Int32)), .val (.ref b152), .val (.int (1 : Int32)), .val (.int (3 : Int32)), .val (.int (1 : Int32))] [(.ref a1)])) _
    refine st242 _ ?_
    show Steps p.tables e below (T242.setTop (mkF m 216 #[.val (.ref a1), .val (.int (2 : Int32)), .val (.ref a3), .val (.ref a4), .val (.ref a5), .val (.ref a6), .val (.int (2 : Int32)), .val (.ref b152), .val (.int (1 : Int32)), .val (.int (3 : Int32)), .val (.int (1 : Int32))] [(.ref b53)])) _
    refine XS.iload X242.here hx rfl (hb hby d1_216) rfl ?_
    show Steps p.tables e below (T242.setTop (mkF m 218 #[.val (.ref a1), .val (.int (2 : Int32)), .val (.ref a3), .val (.ref a4), .val (.ref a5), .val (.ref a6), .val (.int (2 : Int32)), .val (.ref b152), .val (.int (1 : Int32)), .val (.int (3 : Int32)), .val (.int (1 : Int32))] [(.int (1 : Int32)), (.ref b53)])) _
    refine XS.aloadN X242.here hx rfl (hb hby d1_218) rfl rfl ?_
    show Steps p.tables e below (T242.setTop (mkF m 219 #[.val (.ref a1), .val (.int (2 : Int32)), .val (.ref a3), .val (.ref a4), .val (.ref a5), .val (.ref a6), .val (.int (2 : Int32)), .val (.ref b152), .val (.int (1 : Int32)), .val (.int (3 : Int32)), .val (.int (1 : Int32))] [(.ref a3), (.int (1 : Int32)), (.ref b53)])) _
    refine XS.iload X242.here hx rfl (hb hby d1_219) rfl ?_
    show Steps p.tables e below (T242.setTop (mkF m 221 #[.val (.ref a1), .val (.int (2 : Int32)), .val (.ref a3), .val (.ref a4), .val (.ref a5), .val (.ref a6), .val (.int (2 : Int32)), .val (.ref b152), .val (.int (1 : Int32)), .val (.int (3 : Int32)), .val (.int (1 : Int32))] [(.int (1 : Int32)), (.ref a3), (.int (1 : Int32)), (.ref b53)])) _
    refine X242.iaload hx (j := (1 : Int32)) (v := (.int (1 : Int32))) (by rw [e242]; exact A244.1) (State.isArrayOf_alike hZ.alike A244.2.1) A244.2.2 hin244 hat244 (g := (mkF m 221 #[.val (.ref a1), .val (.int (2 : Int32)), .val (.ref a3), .val (.ref a4), .val (.ref a5), .val (.ref a6), .val (.int (2 : Int32)), .val (.ref b152), .val (.int (1 : Int32)), .val (.int (3 : Int32)), .val (.int (1 : Int32))] [(.int (1 : Int32)), (.ref a3), (.int (1 : Int32)), (.ref b53)])) rfl rfl (hb hby d1_221) _ ?_
    show Steps p.tables e below (T242.setTop (mkF m 222 #[.val (.ref a1), .val (.int (2 : Int32)), .val (.ref a3), .val (.ref a4), .val (.ref a5), .val (.ref a6), .val (.int (2 : Int32)), .val (.ref b152), .val (.int (1 : Int32)), .val (.int (3 : Int32)), .val (.int (1 : Int32))] [(.int (1 : Int32)), (.int (1 : Int32)), (.ref b53)])) _
    refine st246 _ ?_
    show Steps p.tables e below (T246.setTop (mkF m 223 #[.val (.ref a1), .val (.int (2 : Int32)), .val (.ref a3), .val (.ref a4), .val (.ref a5), .val (.ref a6), .val (.int (2 : Int32)), .val (.ref b152), .val (.int (1 : Int32)), .val (.int (3 : Int32)), .val (.int (1 : Int32))] [])) _
    refine XS.aloadN X246.here hx rfl (hb hby d1_223) rfl rfl ?_
    show Steps p.tables e below (T246.setTop (mkF m 224 #[.val (.ref a1), .val (.int (2 : Int32)), .val (.ref a3), .val (.ref a4), .val (.ref a5), .val (.ref a6), .val (.int (2 : Int32)), .val (.ref b152), .val (.int (1 : Int32)), .val (.int (3 : Int32)), .val (.int (1 : Int32))] [(.ref a1)])) _
    refine st247 _ ?_
    show Steps p.tables e below (T247.setTop (mkF m 227 #[.val (.ref a1), .val (.int (2 : Int32)), .val (.ref a3), .val (.ref a4), .val (.ref a5), .val (.ref a6), .val (.int (2 : Int32)), .val (.ref b152), .val (.int (1 : Int32)), .val (.int (3 : Int32)), .val (.int (1 : Int32))] [(.ref b68)])) _
    refine XS.iload X247.here hx rfl (hb hby d1_227) rfl ?_
    show Steps p.tables e below (T247.setTop (mkF m 229 #[.val (.ref a1), .val (.int (2 : Int32)), .val (.ref a3), .val (.ref a4), .val (.ref a5), .val (.ref a6), .val (.int (2 : Int32)), .val (.ref b152), .val (.int (1 : Int32)), .val (.int (3 : Int32)), .val (.int (1 : Int32))] [(.int (3 : Int32)), (.ref b68)])) _
    refine XS.iload X247.here hx rfl (hb hby d1_229) rfl ?_
    show Steps p.tables e below (T247.setTop (mkF m 231 #[.val (.ref a1), .val (.int (2 : Int32)), .val (.ref a3), .val (.ref a4), .val (.ref a5), .val (.ref a6), .val (.int (2 : Int32)), .val (.ref b152), .val (.int (1 : Int32)), .val (.int (3 : Int32)), .val (.int (1 : Int32))] [(.int (1 : Int32)), (.int (3 : Int32)), (.ref b68)])) _
    refine st249 _ ?_
    show Steps p.tables e below (T249.setTop (mkF m 232 #[.val (.ref a1), .val (.int (2 : Int32)), .val (.ref a3), .val (.ref a4), .val (.ref a5), .val (.ref a6), .val (.int (2 : Int32)), .val (.ref b152), .val (.int (1 : Int32)), .val (.int (3 : Int32)), .val (.int (1 : Int32))] [])) _
    refine XS.aloadN X249.here hx rfl (hb hby d1_232) rfl rfl ?_
    show Steps p.tables e below (T249.setTop (mkF m 233 #[.val (.ref a1), .val (.int (2 : Int32)), .val (.ref a3), .val (.ref a4), .val (.ref a5), .val (.ref a6), .val (.int (2 : Int32)), .val (.ref b152), .val (.int (1 : Int32)), .val (.int (3 : Int32)), .val (.int (1 : Int32))] [(.ref a1)])) _
    refine st251 _ ?_
    show Steps p.tables e below (T251.setTop (mkF m 236 #[.val (.ref a1), .val (.int (2 : Int32)), .val (.ref a3), .val (.ref a4), .val (.ref a5), .val (.ref a6), .val (.int (2 : Int32)), .val (.ref b152), .val (.int (1 : Int32)), .val (.int (3 : Int32)), .val (.int (1 : Int32))] [(.ref b68)])) _
    refine XS.iload X251.here hx rfl (hb hby d1_236) rfl ?_
    show Steps p.tables e below (T251.setTop (mkF m 238 #[.val (.ref a1), .val (.int (2 : Int32)), .val (.ref a3), .val (.ref a4), .val (.ref a5), .val (.ref a6), .val (.int (2 : Int32)), .val (.ref b152), .val (.int (1 : Int32)), .val (.int (3 : Int32)), .val (.int (1 : Int32))] [(.int (1 : Int32)), (.ref b68)])) _
    refine XS.iload X251.here hx rfl (hb hby d1_238) rfl ?_
    show Steps p.tables e below (T251.setTop (mkF m 240 #[.val (.ref a1), .val (.int (2 : Int32)), .val (.ref a3), .val (.ref a4), .val (.ref a5), .val (.ref a6), .val (.int (2 : Int32)), .val (.ref b152), .val (.int (1 : Int32)), .val (.int (3 : Int32)), .val (.int (1 : Int32))] [(.int (3 : Int32)), (.int (1 : Int32)), (.ref b68)])) _
    refine st253 _ ?_
    show Steps p.tables e below (T253.setTop (mkF m 241 #[.val (.ref a1), .val (.int (2 : Int32)), .val (.ref a3), .val (.ref a4), .val (.ref a5), .val (.ref a6), .val (.int (2 : Int32)), .val (.ref b152), .val (.int (1 : Int32)), .val (.int (3 : Int32)), .val (.int (1 : Int32))] [])) _
    refine XS.aloadN X253.here hx rfl (hb hby d1_241) rfl rfl ?_
    show Steps p.tables e below (T253.setTop (mkF m 242 #[.val (.ref a1), .val (.int (2 : Int32)), .val (.ref a3), .val (.ref a4), .val (.ref a5), .val (.ref a6), .val (.int (2 : Int32)), .val (.ref b152), .val (.int (1 : Int32)), .val (.int (3 : Int32)), .val (.int (1 : Int32))] [(.ref a1)])) _
    refine st254 _ ?_
    show Steps p.tables e below (T254.setTop (mkF m 245 #[.val (.ref a1), .val (.int (2 : Int32)), .val (.ref a3), .val (.ref a4), .val (.ref a5), .val (.ref a6), .val (.int (2 : Int32)), .val (.ref b152), .val (.int (1 : Int32)), .val (.int (3 : Int32)), .val (.int (1 : Int32))] [(.ref b86)])) _
    refine XS.iload X254.here hx rfl (hb hby d1_245) rfl ?_
    show Steps p.tables e below (T254.setTop (mkF m 247 #[.val (.ref a1), .val (.int (2 : Int32)), .val (.ref a3), .val (.ref a4), .val (.ref a5), .val (.ref a6), .val (.int (2 : Int32)), .val (.ref b152), .val (.int (1 : Int32)), .val (.int (3 : Int32)), .val (.int (1 : Int32))] [(.int (3 : Int32)), (.ref b86)])) _
    refine XS.aload X254.here hx rfl (hb hby d1_247) rfl rfl ?_
    show Steps p.tables e below (T254.setTop (mkF m 249 #[.val (.ref a1), .val (.int (2 : Int32)), .val (.ref a3), .val (.ref a4), .val (.ref a5), .val (.ref a6), .val (.int (2 : Int32)), .val (.ref b152), .val (.int (1 : Int32)), .val (.int (3 : Int32)), .val (.int (1 : Int32))] [(.ref a5), (.int (3 : Int32)), (.ref b86)])) _
    refine XS.iload X254.here hx rfl (hb hby d1_249) rfl ?_
    show Steps p.tables e below (T254.setTop (mkF m 251 #[.val (.ref a1), .val (.int (2 : Int32)), .val (.ref a3), .val (.ref a4), .val (.ref a5), .val (.ref a6), .val (.int (2 : Int32)), .val (.ref b152), .val (.int (1 : Int32)), .val (.int (3 : Int32)), .val (.int (1 : Int32))] [(.int (1 : Int32)), (.ref a5), (.int (3 : Int32)), (.ref b86)])) _
    refine X254.iaload hx (j := (1 : Int32)) (v := (.int x2)) (by rw [e254]; exact A256.1) (State.isArrayOf_alike hZ.alike A256.2.1) A256.2.2 hin256 hat256 (g := (mkF m 251 #[.val (.ref a1), .val (.int (2 : Int32)), .val (.ref a3), .val (.ref a4), .val (.ref a5), .val (.ref a6), .val (.int (2 : Int32)), .val (.ref b152), .val (.int (1 : Int32)), .val (.int (3 : Int32)), .val (.int (1 : Int32))] [(.int (1 : Int32)), (.ref a5), (.int (3 : Int32)), (.ref b86)])) rfl rfl (hb hby d1_251) _ ?_
    show Steps p.tables e below (T254.setTop (mkF m 252 #[.val (.ref a1), .val (.int (2 : Int32)), .val (.ref a3), .val (.ref a4), .val (.ref a5), .val (.ref a6), .val (.int (2 : Int32)), .val (.ref b152), .val (.int (1 : Int32)), .val (.int (3 : Int32)), .val (.int (1 : Int32))] [(.int x2), (.int (3 : Int32)), (.ref b86)])) _
    refine st258 _ ?_
    show Steps p.tables e below (T258.setTop (mkF m 253 #[.val (.ref a1), .val (.int (2 : Int32)), .val (.ref a3), .val (.ref a4), .val (.ref a5), .val (.ref a6), .val (.int (2 : Int32)), .val (.ref b152), .val (.int (1 : Int32)), .val (.int (3 : Int32)), .val (.int (1 : Int32))] [])) _
    refine XS.aloadN X258.here hx rfl (hb hby d1_253) rfl rfl ?_
    show Steps p.tables e below (T258.setTop (mkF m 254 #[.val (.ref a1), .val (.int (2 : Int32)), .val (.ref a3), .val (.ref a4), .val (.ref a5), .val (.ref a6), .val (.int (2 : Int32)), .val (.ref b152), .val (.int (1 : Int32)), .val (.int (3 : Int32)), .val (.int (1 : Int32))] [(.ref a1)])) _
    refine st260 _ ?_
    show Steps p.tables e below (T260.setTop (mkF m 257 #[.val (.ref a1), .val (.int (2 : Int32)), .val (.ref a3), .val (.ref a4), .val (.ref a5), .val (.ref a6), .val (.int (2 : Int32)), .val (.ref b152), .val (.int (1 : Int32)), .val (.int (3 : Int32)), .val (.int (1 : Int32))] [(.ref b106)])) _
    refine XS.iload X260.here hx rfl (hb hby d1_257) rfl ?_
    show Steps p.tables e below (T260.setTop (mkF m 259 #[.val (.ref a1), .val (.int (2 : Int32)), .val (.ref a3), .val (.ref a4), .val (.ref a5), .val (.ref a6), .val (.int (2 : Int32)), .val (.ref b152), .val (.int (1 : Int32)), .val (.int (3 : Int32)), .val (.int (1 : Int32))] [(.int (3 : Int32)), (.ref b106)])) _
    refine XS.aload X260.here hx rfl (hb hby d1_259) rfl rfl ?_
    show Steps p.tables e below (T260.setTop (mkF m 261 #[.val (.ref a1), .val (.int (2 : Int32)), .val (.ref a3), .val (.ref a4), .val (.ref a5), .val (.ref a6), .val (.int (2 : Int32)), .val (.ref b152), .val (.int (1 : Int32)), .val (.int (3 : Int32)), .val (.int (1 : Int32))] [(.ref a6), (.int (3 : Int32)), (.ref b106)])) _
    refine XS.iload X260.here hx rfl (hb hby d1_261) rfl ?_
    show Steps p.tables e below (T260.setTop (mkF m 263 #[.val (.ref a1), .val (.int (2 : Int32)), .val (.ref a3), .val (.ref a4), .val (.ref a5), .val (.ref a6), .val (.int (2 : Int32)), .val (.ref b152), .val (.int (1 : Int32)), .val (.int (3 : Int32)), .val (.int (1 : Int32))] [(.int (1 : Int32)), (.ref a6), (.int (3 : Int32)), (.ref b106)])) _
    refine X260.laload hx (j := (1 : Int32)) (v := (.long (-7 : Int64))) (by rw [e260]; exact A262.1) (State.isArrayOf_alike hZ.alike A262.2.1) A262.2.2 hin262 hat262 (g := (mkF m 263 #[.val (.ref a1), .val (.int (2 : Int32)), .val (.ref a3), .val (.ref a4), .val (.ref a5), .val (.ref a6), .val (.int (2 : Int32)), .val (.ref b152), .val (.int (1 : Int32)), .val (.int (3 : Int32)), .val (.int (1 : Int32))] [(.int (1 : Int32)), (.ref a6), (.int (3 : Int32)), (.ref b106)])) rfl rfl (hb hby d1_263) _ ?_
    show Steps p.tables e below (T260.setTop (mkF m 264 #[.val (.ref a1), .val (.int (2 : Int32)), .val (.ref a3), .val (.ref a4), .val (.ref a5), .val (.ref a6), .val (.int (2 : Int32)), .val (.ref b152), .val (.int (1 : Int32)), .val (.int (3 : Int32)), .val (.int (1 : Int32))] [(.long (-7 : Int64)), (.int (3 : Int32)), (.ref b106)])) _
    refine st264 _ ?_
    show Steps p.tables e below (T264.setTop (mkF m 265 #[.val (.ref a1), .val (.int (2 : Int32)), .val (.ref a3), .val (.ref a4), .val (.ref a5), .val (.ref a6), .val (.int (2 : Int32)), .val (.ref b152), .val (.int (1 : Int32)), .val (.int (3 : Int32)), .val (.int (1 : Int32))] [])) _
    refine XS.aloadN X264.here hx rfl (hb hby d1_265) rfl rfl ?_
    show Steps p.tables e below (T264.setTop (mkF m 266 #[.val (.ref a1), .val (.int (2 : Int32)), .val (.ref a3), .val (.ref a4), .val (.ref a5), .val (.ref a6), .val (.int (2 : Int32)), .val (.ref b152), .val (.int (1 : Int32)), .val (.int (3 : Int32)), .val (.int (1 : Int32))] [(.ref a1)])) _
    refine st266 _ ?_
    show Steps p.tables e below (T266.setTop (mkF m 269 #[.val (.ref a1), .val (.int (2 : Int32)), .val (.ref a3), .val (.ref a4), .val (.ref a5), .val (.ref a6), .val (.int (2 : Int32)), .val (.ref b152), .val (.int (1 : Int32)), .val (.int (3 : Int32)), .val (.int (1 : Int32))] [(.ref b106)])) _
    refine XS.iload X266.here hx rfl (hb hby d1_269) rfl ?_
    show Steps p.tables e below (T266.setTop (mkF m 271 #[.val (.ref a1), .val (.int (2 : Int32)), .val (.ref a3), .val (.ref a4), .val (.ref a5), .val (.ref a6), .val (.int (2 : Int32)), .val (.ref b152), .val (.int (1 : Int32)), .val (.int (3 : Int32)), .val (.int (1 : Int32))] [(.int (1 : Int32)), (.ref b106)])) _
    refine XS.aload X266.here hx rfl (hb hby d1_271) rfl rfl ?_
    show Steps p.tables e below (T266.setTop (mkF m 273 #[.val (.ref a1), .val (.int (2 : Int32)), .val (.ref a3), .val (.ref a4), .val (.ref a5), .val (.ref a6), .val (.int (2 : Int32)), .val (.ref b152), .val (.int (1 : Int32)), .val (.int (3 : Int32)), .val (.int (1 : Int32))] [(.ref a6), (.int (1 : Int32)), (.ref b106)])) _
    refine XS.iload X266.here hx rfl (hb hby d1_273) rfl ?_
    show Steps p.tables e below (T266.setTop (mkF m 275 #[.val (.ref a1), .val (.int (2 : Int32)), .val (.ref a3), .val (.ref a4), .val (.ref a5), .val (.ref a6), .val (.int (2 : Int32)), .val (.ref b152), .val (.int (1 : Int32)), .val (.int (3 : Int32)), .val (.int (1 : Int32))] [(.int (1 : Int32)), (.ref a6), (.int (1 : Int32)), (.ref b106)])) _
    refine X266.laload hx (j := (1 : Int32)) (v := (.long (-7 : Int64))) (by rw [e266]; exact A268.1) (State.isArrayOf_alike hZ.alike A268.2.1) A268.2.2 hin268 hat268 (g := (mkF m 275 #[.val (.ref a1), .val (.int (2 : Int32)), .val (.ref a3), .val (.ref a4), .val (.ref a5), .val (.ref a6), .val (.int (2 : Int32)), .val (.ref b152), .val (.int (1 : Int32)), .val (.int (3 : Int32)), .val (.int (1 : Int32))] [(.int (1 : Int32)), (.ref a6), (.int (1 : Int32)), (.ref b106)])) rfl rfl (hb hby d1_275) _ ?_
    show Steps p.tables e below (T266.setTop (mkF m 276 #[.val (.ref a1), .val (.int (2 : Int32)), .val (.ref a3), .val (.ref a4), .val (.ref a5), .val (.ref a6), .val (.int (2 : Int32)), .val (.ref b152), .val (.int (1 : Int32)), .val (.int (3 : Int32)), .val (.int (1 : Int32))] [(.long (-7 : Int64)), (.int (1 : Int32)), (.ref b106)])) _
    refine XS.lneg X266.here hx rfl (hb hby d1_276) rfl ?_
    show Steps p.tables e below (T266.setTop (mkF m 277 #[.val (.ref a1), .val (.int (2 : Int32)), .val (.ref a3), .val (.ref a4), .val (.ref a5), .val (.ref a6), .val (.int (2 : Int32)), .val (.ref b152), .val (.int (1 : Int32)), .val (.int (3 : Int32)), .val (.int (1 : Int32))] [(.long (7 : Int64)), (.int (1 : Int32)), (.ref b106)])) _
    refine st270 _ ?_
    show Steps p.tables e below (T270.setTop (mkF m 278 #[.val (.ref a1), .val (.int (2 : Int32)), .val (.ref a3), .val (.ref a4), .val (.ref a5), .val (.ref a6), .val (.int (2 : Int32)), .val (.ref b152), .val (.int (1 : Int32)), .val (.int (3 : Int32)), .val (.int (1 : Int32))] [])) _
    refine XS.aloadN X270.here hx rfl (hb hby d1_278) rfl rfl ?_
    show Steps p.tables e below (T270.setTop (mkF m 279 #[.val (.ref a1), .val (.int (2 : Int32)), .val (.ref a3), .val (.ref a4), .val (.ref a5), .val (.ref a6), .val (.int (2 : Int32)), .val (.ref b152), .val (.int (1 : Int32)), .val (.int (3 : Int32)), .val (.int (1 : Int32))] [(.ref a1)])) _
    refine st271 _ ?_
    show Steps p.tables e below (T271.setTop (mkF m 282 #[.val (.ref a1), .val (.int (2 : Int32)), .val (.ref a3), .val (.ref a4), .val (.ref a5), .val (.ref a6), .val (.int (2 : Int32)), .val (.ref b152), .val (.int (1 : Int32)), .val (.int (3 : Int32)), .val (.int (1 : Int32))] [(.ref b128)])) _
    refine XS.iload X271.here hx rfl (hb hby d1_282) rfl ?_
    show Steps p.tables e below (T271.setTop (mkF m 284 #[.val (.ref a1), .val (.int (2 : Int32)), .val (.ref a3), .val (.ref a4), .val (.ref a5), .val (.ref a6), .val (.int (2 : Int32)), .val (.ref b152), .val (.int (1 : Int32)), .val (.int (3 : Int32)), .val (.int (1 : Int32))] [(.int (1 : Int32)), (.ref b128)])) _
    refine XS.iload X271.here hx rfl (hb hby d1_284) rfl ?_
    show Steps p.tables e below (T271.setTop (mkF m 286 #[.val (.ref a1), .val (.int (2 : Int32)), .val (.ref a3), .val (.ref a4), .val (.ref a5), .val (.ref a6), .val (.int (2 : Int32)), .val (.ref b152), .val (.int (1 : Int32)), .val (.int (3 : Int32)), .val (.int (1 : Int32))] [(.int (3 : Int32)), (.int (1 : Int32)), (.ref b128)])) _
    refine st273 _ ?_
    show Steps p.tables e below (T273.setTop (mkF m 287 #[.val (.ref a1), .val (.int (2 : Int32)), .val (.ref a3), .val (.ref a4), .val (.ref a5), .val (.ref a6), .val (.int (2 : Int32)), .val (.ref b152), .val (.int (1 : Int32)), .val (.int (3 : Int32)), .val (.int (1 : Int32))] [])) _
    refine XS.iinc X273.here hx rfl (hb hby d1_287) rfl (l' := #[.val (.ref a1), .val (.int (2 : Int32)), .val (.ref a3), .val (.ref a4), .val (.ref a5), .val (.ref a6), .val (.int (2 : Int32)), .val (.ref b152), .val (.int (2 : Int32)), .val (.int (3 : Int32)), .val (.int (1 : Int32))]) rfl ?_
    show Steps p.tables e below (T273.setTop (mkF m 290 #[.val (.ref a1), .val (.int (2 : Int32)), .val (.ref a3), .val (.ref a4), .val (.ref a5), .val (.ref a6), .val (.int (2 : Int32)), .val (.ref b152), .val (.int (2 : Int32)), .val (.int (3 : Int32)), .val (.int (1 : Int32))] [])) _
    refine XS.goto X273.here hx rfl (pc0 := 290) (pc' := 166) rfl (hb hby d1_290) (by decide) (by decide) ?_
    show Steps p.tables e below (T273.setTop (mkF m 166 #[.val (.ref a1), .val (.int (2 : Int32)), .val (.ref a3), .val (.ref a4), .val (.ref a5), .val (.ref a6), .val (.int (2 : Int32)), .val (.ref b152), .val (.int (2 : Int32)), .val (.int (3 : Int32)), .val (.int (1 : Int32))] [])) _
    refine XS.iload X273.here hx rfl (hb hby d1_166) rfl ?_
    show Steps p.tables e below (T273.setTop (mkF m 168 #[.val (.ref a1), .val (.int (2 : Int32)), .val (.ref a3), .val (.ref a4), .val (.ref a5), .val (.ref a6), .val (.int (2 : Int32)), .val (.ref b152), .val (.int (2 : Int32)), .val (.int (3 : Int32)), .val (.int (1 : Int32))] [(.int (2 : Int32))])) _
    refine XS.iload X273.here hx rfl (hb hby d1_168) rfl ?_
    show Steps p.tables e below (T273.setTop (mkF m 170 #[.val (.ref a1), .val (.int (2 : Int32)), .val (.ref a3), .val (.ref a4), .val (.ref a5), .val (.ref a6), .val (.int (2 : Int32)), .val (.ref b152), .val (.int (2 : Int32)), .val (.int (3 : Int32)), .val (.int (1 : Int32))] [(.int (2 : Int32)), (.int (2 : Int32))])) _
    refine XS.icmpYes X273.here hx rfl (pc0 := 170) (pc' := 293) rfl (hb hby d1_170) rfl (flt (by decide : ¬ ((2 : Int32) < (2 : Int32)))).2.1 (by decide) (by decide) ?_
    show Steps p.tables e below (T273.setTop (mkF m 293 #[.val (.ref a1), .val (.int (2 : Int32)), .val (.ref a3), .val (.ref a4), .val (.ref a5), .val (.ref a6), .val (.int (2 : Int32)), .val (.ref b152), .val (.int (2 : Int32)), .val (.int (3 : Int32)), .val (.int (1 : Int32))] [])) _
    exact X273.returnOut hx Bd.returns (hb hby d1_293) hr
  · show Q1 Z a1 a3 a4 a5 a6 x1 x2 h0 n0 _ T273.heap _
    rw [e273]
    have F276 := (((((F252.other W253 (Or.inl ne70)).other W258 (Or.inl ne88)).other W264 (Or.inl ne108)).other W270 (Or.inl ne108)).other W273 (Or.inl ne130))
    have F277 := ((((F255.other W258 (Or.inl ne88)).other W264 (Or.inl ne108)).other W270 (Or.inl ne108)).other W273 (Or.inl ne130))
    have F278 := ((((V253.other W258 ne102).other W264 ne122).other W270 ne122).other W273 ne144)
    have F279 := (((V258.other W264 ne124).other W270 ne124).other W273 ne146)
    exact ⟨b68, b86, rfl, N273, K273, g_b68, sz_b68, g_b86, sz_b86, F276, F277, F278, F279, ne102⟩

def psm (i : Int32) : Int32 := if i = 0 then 2 else if i = 1 then 3 else if i = 2 then 0 else 1
def psh (i arc amt x : Int32) : Int32 := if i = arc then x - amt else if i = psm arc then x + amt else x

theorem d3_0 : decode prog_63_method_3_code 0 = .ok (.aload_n 0, 1) := by decide +kernel
theorem d3_1 : decode prog_63_method_3_code 1 = .ok (.getfield 23, 3) := by decide +kernel
theorem d3_4 : decode prog_63_method_3_code 4 = .ok (.iload_n 1, 1) := by decide +kernel
theorem d3_5 : decode prog_63_method_3_code 5 = .ok (.dup2, 1) := by decide +kernel
theorem d3_6 : decode prog_63_method_3_code 6 = .ok (.iaload, 1) := by decide +kernel
theorem d3_7 : decode prog_63_method_3_code 7 = .ok (.iload_n 2, 1) := by decide +kernel
theorem d3_8 : decode prog_63_method_3_code 8 = .ok (.isub, 1) := by decide +kernel
theorem d3_9 : decode prog_63_method_3_code 9 = .ok (.iastore, 1) := by decide +kernel
theorem d3_10 : decode prog_63_method_3_code 10 = .ok (.aload_n 0, 1) := by decide +kernel
theorem d3_11 : decode prog_63_method_3_code 11 = .ok (.getfield 23, 3) := by decide +kernel
theorem d3_14 : decode prog_63_method_3_code 14 = .ok (.aload_n 0, 1) := by decide +kernel
theorem d3_15 : decode prog_63_method_3_code 15 = .ok (.getfield 20, 3) := by decide +kernel
theorem d3_18 : decode prog_63_method_3_code 18 = .ok (.iload_n 1, 1) := by decide +kernel
theorem d3_19 : decode prog_63_method_3_code 19 = .ok (.iaload, 1) := by decide +kernel
theorem d3_20 : decode prog_63_method_3_code 20 = .ok (.dup2, 1) := by decide +kernel
theorem d3_21 : decode prog_63_method_3_code 21 = .ok (.iaload, 1) := by decide +kernel
theorem d3_22 : decode prog_63_method_3_code 22 = .ok (.iload_n 2, 1) := by decide +kernel
theorem d3_23 : decode prog_63_method_3_code 23 = .ok (.iadd, 1) := by decide +kernel
theorem d3_24 : decode prog_63_method_3_code 24 = .ok (.iastore, 1) := by decide +kernel
theorem d3_25 : decode prog_63_method_3_code 25 = .ok (.return_, 1) := by decide +kernel
theorem ef_3 (m : MethodId) (x0 : Addr) (x1 : Int32) (x2 : Int32) : entryFrame m #[(.ref x0), (.int x1), (.int x2)] 3 = mkF m 0 #[.val (.ref x0), .val (.int x1), .val (.int x2)] [] := by first | (simp [entryFrame, mkF, argsToLocals, Value.category]; done) | rfl
def Q3 (Z : State) (a1 : Addr) (p2 : Int32) (p3 : Int32) (r : Addr) (mt : Addr) (x0 : Int32) (x1 : Int32) (x2 : Int32) (x3 : Int32) (h0 : Heap) (n0 : Nat) (v : Option Value) (h : Heap) (L : List Loc) : Prop := v = none ∧ Fr n0 L ∧ Keep h0 h [r] ∧ AV Z h r .int (4 : Int32) [(.int (psh (0 : Int32) p2 p3 x0)), (.int (psh (1 : Int32) p2 p3 x1)), (.int (psh (2 : Int32) p2 p3 x2)), (.int (psh (3 : Int32) p2 p3 x3))]
set_option maxRecDepth 65536 in
set_option maxHeartbeats 40000000 in
theorem rm3 (l : Launch) (Z : State) (a0 : Array Value) (hw : ∀ d ∈ tables_1, d.before a0 Z = true) (ws : List Jvm.Cond) (a1 : Addr) (p2 : Int32) (p3 : Int32) (r : Addr) (mt : Addr) (x0 : Int32) (x1 : Int32) (x2 : Int32) (x3 : Int32) (h0 : Heap) (n0 : Nat) (Z0 : n0 ≤ h0.size) (F_a1_residual : Fld Z h0 a1 "com/example/hindsight/hindsight/solvers/ResidualNetwork" "residual" "[I" (.ref r)) (F_a1_mate : Fld Z h0 a1 "com/example/hindsight/hindsight/solvers/ResidualNetwork" "mate" "[I" (.ref mt)) (V_r : AV Z h0 r .int (4 : Int32) [(.int x0), (.int x1), (.int x2), (.int x3)]) (V_mt : AV Z h0 mt .int (4 : Int32) [(.int (2 : Int32)), (.int (3 : Int32)), (.int (0 : Int32)), (.int (1 : Int32))]) (g_r : n0 ≤ r) (ne_a1_r : a1 ≠ r) (ne_mt_r : mt ≠ r) (hP : p2 = 0 ∨ p2 = 1 ∨ p2 = 2 ∨ p2 = 3) :
    MetFree l (⟨"com/example/hindsight/hindsight/solvers/ResidualNetwork", "push", "(II)V"⟩ : MethodName) (head1 (Jvm.Cond.code (⟨"com/example/hindsight/hindsight/solvers/ResidualNetwork", "push", "(II)V"⟩ : MethodName) prog_63_method_3_code 3 none :: ws) ({ frames := 0, cells := 0, slots := 0, locals := 0 } : Room)) (fun a U => a = #[(.ref a1), (.int p2), (.int p3)] ∧ Z.Warmed39 U.vm ∧ U.heap = h0) (fun _ _ _ _ _ => True) (fun _ U o U' => ∃ v L, o = .returned v ∧ Q3 Z a1 p2 p3 r mt x0 x1 x2 x3 h0 n0 v U'.heap L ∧ FrameEnd U o U' L ({ frames := 0, cells := 0, slots := 0, locals := 0 } : Room).cells ({ frames := 0, cells := 0, slots := 0, locals := 0 } : Room).slots) := by
  refine MetFree.of_bodySF (plainFor_of_name pn_0) hisR ?_
  intro p e s m args below meth c s₁ Bd hml0 hP hK
  obtain ⟨rfl, hZ, hh⟩ := hP
  have hx := Bd.exec
  have hby := Bd.bytes
  have hml : c.maxLocals = 3 := hml0
  have hown : s.vm.findClass "com/example/hindsight/hindsight/solvers/ResidualNetwork" = some m.cls := findClass_of_methodNamed Bd.named
  have hnm := (name_of_methodNamed Bd.named Bd.method).1
  have X0 : Stand p l e ({ frames := 0, cells := 0, slots := 0, locals := 0 } : Room) s m #[(.ref a1), (.int p2), (.int p3)] below meth c s₁ [] 0 0 := Stand.of_body Bd
  have e0 : s₁.heap = h0 := by rw [← hh, Bd.state]; rfl
  have N0 := Fr.nil n0
  have pre0 : ∀ t, Steps p.tables e below (s₁.setTop (mkF m 0 #[.val (.ref a1), .val (.int p2), .val (.int p3)] [])) t → Steps p.tables e below (s₁.setTop (entryFrame m #[(.ref a1), (.int p2), (.int p3)] 3)) t := fun t k => castTop (ef_3 m a1 p2 p3) k
  rcases hP with rfl | rfl | rfl | rfl
  · obtain ⟨T1, X1, e1, st1⟩ := getF X0 hx hZ hown (host := "") (Or.inl (hw _ (List.mem_of_getElem? (i := 21) rfl))) Via.refl e0 F_a1_residual (g := (mkF m 1 #[.val (.ref a1), .val (.int (0 : Int32)), .val (.int p3)] [(.ref a1)])) rfl rfl (hb hby d3_1)
    obtain ⟨cl2, A2, S2, Nl2, M2⟩ := id V_r
    have hin2 : ¬ ((0 : Int32) < 0 ∨ cl2.slots.size ≤ ((0 : Int32)).toNatClampNeg) := AV.inb S2 Nl2 ⟨by decide, by decide⟩
    have hat2 : cl2.slots[((0 : Int32)).toNatClampNeg]? = some (.int x0) := AV.at S2 rfl
    obtain ⟨cl3, A3, S3, Nl3, M3⟩ := id V_r
    have hin3 : ¬ ((0 : Int32) < 0 ∨ cl3.slots.size ≤ ((0 : Int32)).toNatClampNeg) := AV.inb S3 Nl3 ⟨by decide, by decide⟩
    obtain ⟨T3, h3, X3, e3, W3, st3⟩ := stI X1 hx hZ e1 A3 (j := (0 : Int32)) hin3 (g := (mkF m 9 #[.val (.ref a1), .val (.int (0 : Int32)), .val (.int p3)] [(.int (x0 - p3)), (.int (0 : Int32)), (.ref r)])) rfl rfl (hb hby d3_9)
    have V3 : AV Z h3 r .int (4 : Int32) [(.int (x0 - p3)), (.int x1), (.int x2), (.int x3)] := AV.set A3 S3 Nl3 M3 W3
    have K3 : Keep h0 h3 [r] := (Keep.refl h0 [r]).wr W3 (Or.inl (List.mem_of_getElem? (i := 0) rfl))
    have N3 := Fr.snoc X3 N0 g_r
    have F5 := (F_a1_residual.other W3 (Or.inl ne_a1_r))
    obtain ⟨T4, X4, e4, st4⟩ := getF X3 hx hZ hown (host := "") (Or.inl (hw _ (List.mem_of_getElem? (i := 21) rfl))) Via.refl e3 F5 (g := (mkF m 11 #[.val (.ref a1), .val (.int (0 : Int32)), .val (.int p3)] [(.ref a1)])) rfl rfl (hb hby d3_11)
    have F7 := (F_a1_mate.other W3 (Or.inl ne_a1_r))
    obtain ⟨T6, X6, e6, st6⟩ := getF X4 hx hZ hown (host := "") (Or.inl (hw _ (List.mem_of_getElem? (i := 19) rfl))) Via.refl e4 F7 (g := (mkF m 15 #[.val (.ref a1), .val (.int (0 : Int32)), .val (.int p3)] [(.ref a1), (.ref r)])) rfl rfl (hb hby d3_15)
    have F9 := (V_mt.other W3 ne_mt_r)
    obtain ⟨cl8, A8, S8, Nl8, M8⟩ := id F9
    have hin8 : ¬ ((0 : Int32) < 0 ∨ cl8.slots.size ≤ ((0 : Int32)).toNatClampNeg) := AV.inb S8 Nl8 ⟨by decide, by decide⟩
    have hat8 : cl8.slots[((0 : Int32)).toNatClampNeg]? = some (.int (2 : Int32)) := AV.at S8 rfl
    obtain ⟨cl10, A10, S10, Nl10, M10⟩ := id V3
    have hin10 : ¬ ((2 : Int32) < 0 ∨ cl10.slots.size ≤ ((2 : Int32)).toNatClampNeg) := AV.inb S10 Nl10 ⟨by decide, by decide⟩
    have hat10 : cl10.slots[((2 : Int32)).toNatClampNeg]? = some (.int x2) := AV.at S10 rfl
    obtain ⟨cl11, A11, S11, Nl11, M11⟩ := id V3
    have hin11 : ¬ ((2 : Int32) < 0 ∨ cl11.slots.size ≤ ((2 : Int32)).toNatClampNeg) := AV.inb S11 Nl11 ⟨by decide, by decide⟩
    obtain ⟨T11, h11, X11, e11, W11, st11⟩ := stI X6 hx hZ e6 A11 (j := (2 : Int32)) hin11 (g := (mkF m 24 #[.val (.ref a1), .val (.int (0 : Int32)), .val (.int p3)] [(.int (x2 + p3)), (.int (2 : Int32)), (.ref r)])) rfl rfl (hb hby d3_24)
    have V11 : AV Z h11 r .int (4 : Int32) [(.int (x0 - p3)), (.int x1), (.int (x2 + p3)), (.int x3)] := AV.set A11 S11 Nl11 M11 W11
    have K11 : Keep h0 h11 [r] := K3.wr W11 (Or.inl (List.mem_of_getElem? (i := 0) rfl))
    have N11 := Fr.snoc X11 N3 g_r
    obtain ⟨fs, hr, hrun, hended, hW, hsame⟩ := X11.leave (v := none) (fun _ => rfl)
    refine ⟨_, _, pre0 _ ?_, hrun, hended, _, _, rfl, ?_, ⟨_, rfl⟩, hW, hsame.mono (by decide) (by decide)⟩
    · show Steps p.tables e below (s₁.setTop (mkF m 0 #[.val (.ref a1), .val (.int (0 : Int32)), .val (.int p3)] [])) _
      refine XS.aloadN X0.here hx rfl (hb hby d3_0) rfl rfl ?_
      show Steps p.tables e below (s₁.setTop (mkF m 1 #[.val (.ref a1), .val (.int (0 : Int32)), .val (.int p3)] [(.ref a1)])) _
      refine st1 _ ?_
      show Steps p.tables e below (T1.setTop (mkF m 4 #[.val (.ref a1), .val (.int (0 : Int32)), .val (.int p3)] [(.ref r)])) _
      refine XS.iloadN X1.here hx rfl (hb hby d3_4) rfl ?_
      show Steps p.tables e below (T1.setTop (mkF m 5 #[.val (.ref a1), .val (.int (0 : Int32)), .val (.int p3)] [(.int (0 : Int32)), (.ref r)])) _
      jvm_step X1.here [X1.here.top, hx, (hb hby d3_5), Value.category]
      show Steps p.tables e below (T1.setTop (mkF m 6 #[.val (.ref a1), .val (.int (0 : Int32)), .val (.int p3)] [(.int (0 : Int32)), (.ref r), (.int (0 : Int32)), (.ref r)])) _
      refine X1.iaload hx (j := (0 : Int32)) (v := (.int x0)) (by rw [e1]; exact A2.1) (State.isArrayOf_alike hZ.alike A2.2.1) A2.2.2 hin2 hat2 (g := (mkF m 6 #[.val (.ref a1), .val (.int (0 : Int32)), .val (.int p3)] [(.int (0 : Int32)), (.ref r), (.int (0 : Int32)), (.ref r)])) rfl rfl (hb hby d3_6) _ ?_
      show Steps p.tables e below (T1.setTop (mkF m 7 #[.val (.ref a1), .val (.int (0 : Int32)), .val (.int p3)] [(.int x0), (.int (0 : Int32)), (.ref r)])) _
      refine XS.iloadN X1.here hx rfl (hb hby d3_7) rfl ?_
      show Steps p.tables e below (T1.setTop (mkF m 8 #[.val (.ref a1), .val (.int (0 : Int32)), .val (.int p3)] [(.int p3), (.int x0), (.int (0 : Int32)), (.ref r)])) _
      refine XS.isub X1.here hx rfl (hb hby d3_8) rfl ?_
      show Steps p.tables e below (T1.setTop (mkF m 9 #[.val (.ref a1), .val (.int (0 : Int32)), .val (.int p3)] [(.int (x0 - p3)), (.int (0 : Int32)), (.ref r)])) _
      refine st3 _ ?_
      show Steps p.tables e below (T3.setTop (mkF m 10 #[.val (.ref a1), .val (.int (0 : Int32)), .val (.int p3)] [])) _
      refine XS.aloadN X3.here hx rfl (hb hby d3_10) rfl rfl ?_
      show Steps p.tables e below (T3.setTop (mkF m 11 #[.val (.ref a1), .val (.int (0 : Int32)), .val (.int p3)] [(.ref a1)])) _
      refine st4 _ ?_
      show Steps p.tables e below (T4.setTop (mkF m 14 #[.val (.ref a1), .val (.int (0 : Int32)), .val (.int p3)] [(.ref r)])) _
      refine XS.aloadN X4.here hx rfl (hb hby d3_14) rfl rfl ?_
      show Steps p.tables e below (T4.setTop (mkF m 15 #[.val (.ref a1), .val (.int (0 : Int32)), .val (.int p3)] [(.ref a1), (.ref r)])) _
      refine st6 _ ?_
      show Steps p.tables e below (T6.setTop (mkF m 18 #[.val (.ref a1), .val (.int (0 : Int32)), .val (.int p3)] [(.ref mt), (.ref r)])) _
      refine XS.iloadN X6.here hx rfl (hb hby d3_18) rfl ?_
      show Steps p.tables e below (T6.setTop (mkF m 19 #[.val (.ref a1), .val (.int (0 : Int32)), .val (.int p3)] [(.int (0 : Int32)), (.ref mt), (.ref r)])) _
      refine X6.iaload hx (j := (0 : Int32)) (v := (.int (2 : Int32))) (by rw [e6]; exact A8.1) (State.isArrayOf_alike hZ.alike A8.2.1) A8.2.2 hin8 hat8 (g := (mkF m 19 #[.val (.ref a1), .val (.int (0 : Int32)), .val (.int p3)] [(.int (0 : Int32)), (.ref mt), (.ref r)])) rfl rfl (hb hby d3_19) _ ?_
      show Steps p.tables e below (T6.setTop (mkF m 20 #[.val (.ref a1), .val (.int (0 : Int32)), .val (.int p3)] [(.int (2 : Int32)), (.ref r)])) _
      jvm_step X6.here [X6.here.top, hx, (hb hby d3_20), Value.category]
      show Steps p.tables e below (T6.setTop (mkF m 21 #[.val (.ref a1), .val (.int (0 : Int32)), .val (.int p3)] [(.int (2 : Int32)), (.ref r), (.int (2 : Int32)), (.ref r)])) _
      refine X6.iaload hx (j := (2 : Int32)) (v := (.int x2)) (by rw [e6]; exact A10.1) (State.isArrayOf_alike hZ.alike A10.2.1) A10.2.2 hin10 hat10 (g := (mkF m 21 #[.val (.ref a1), .val (.int (0 : Int32)), .val (.int p3)] [(.int (2 : Int32)), (.ref r), (.int (2 : Int32)), (.ref r)])) rfl rfl (hb hby d3_21) _ ?_
      show Steps p.tables e below (T6.setTop (mkF m 22 #[.val (.ref a1), .val (.int (0 : Int32)), .val (.int p3)] [(.int x2), (.int (2 : Int32)), (.ref r)])) _
      refine XS.iloadN X6.here hx rfl (hb hby d3_22) rfl ?_
      show Steps p.tables e below (T6.setTop (mkF m 23 #[.val (.ref a1), .val (.int (0 : Int32)), .val (.int p3)] [(.int p3), (.int x2), (.int (2 : Int32)), (.ref r)])) _
      refine XS.iadd X6.here hx rfl (hb hby d3_23) rfl ?_
      show Steps p.tables e below (T6.setTop (mkF m 24 #[.val (.ref a1), .val (.int (0 : Int32)), .val (.int p3)] [(.int (x2 + p3)), (.int (2 : Int32)), (.ref r)])) _
      refine st11 _ ?_
      show Steps p.tables e below (T11.setTop (mkF m 25 #[.val (.ref a1), .val (.int (0 : Int32)), .val (.int p3)] [])) _
      exact X11.returnOut hx Bd.returns (hb hby d3_25) hr
    · show Q3 Z a1 (0 : Int32) p3 r mt x0 x1 x2 x3 h0 n0 _ T11.heap _
      rw [e11]
      exact ⟨rfl, N11, K11, V11⟩
  · obtain ⟨T13, X13, e13, st13⟩ := getF X0 hx hZ hown (host := "") (Or.inl (hw _ (List.mem_of_getElem? (i := 21) rfl))) Via.refl e0 F_a1_residual (g := (mkF m 1 #[.val (.ref a1), .val (.int (1 : Int32)), .val (.int p3)] [(.ref a1)])) rfl rfl (hb hby d3_1)
    obtain ⟨cl14, A14, S14, Nl14, M14⟩ := id V_r
    have hin14 : ¬ ((1 : Int32) < 0 ∨ cl14.slots.size ≤ ((1 : Int32)).toNatClampNeg) := AV.inb S14 Nl14 ⟨by decide, by decide⟩
    have hat14 : cl14.slots[((1 : Int32)).toNatClampNeg]? = some (.int x1) := AV.at S14 rfl
    obtain ⟨cl15, A15, S15, Nl15, M15⟩ := id V_r
    have hin15 : ¬ ((1 : Int32) < 0 ∨ cl15.slots.size ≤ ((1 : Int32)).toNatClampNeg) := AV.inb S15 Nl15 ⟨by decide, by decide⟩
    obtain ⟨T15, h15, X15, e15, W15, st15⟩ := stI X13 hx hZ e13 A15 (j := (1 : Int32)) hin15 (g := (mkF m 9 #[.val (.ref a1), .val (.int (1 : Int32)), .val (.int p3)] [(.int (x1 - p3)), (.int (1 : Int32)), (.ref r)])) rfl rfl (hb hby d3_9)
    have V15 : AV Z h15 r .int (4 : Int32) [(.int x0), (.int (x1 - p3)), (.int x2), (.int x3)] := AV.set A15 S15 Nl15 M15 W15
    have K15 : Keep h0 h15 [r] := (Keep.refl h0 [r]).wr W15 (Or.inl (List.mem_of_getElem? (i := 0) rfl))
    have N15 := Fr.snoc X15 N0 g_r
    have F17 := (F_a1_residual.other W15 (Or.inl ne_a1_r))
    obtain ⟨T16, X16, e16, st16⟩ := getF X15 hx hZ hown (host := "") (Or.inl (hw _ (List.mem_of_getElem? (i := 21) rfl))) Via.refl e15 F17 (g := (mkF m 11 #[.val (.ref a1), .val (.int (1 : Int32)), .val (.int p3)] [(.ref a1)])) rfl rfl (hb hby d3_11)
    have F19 := (F_a1_mate.other W15 (Or.inl ne_a1_r))
    obtain ⟨T18, X18, e18, st18⟩ := getF X16 hx hZ hown (host := "") (Or.inl (hw _ (List.mem_of_getElem? (i := 19) rfl))) Via.refl e16 F19 (g := (mkF m 15 #[.val (.ref a1), .val (.int (1 : Int32)), .val (.int p3)] [(.ref a1), (.ref r)])) rfl rfl (hb hby d3_15)
    have F21 := (V_mt.other W15 ne_mt_r)
    obtain ⟨cl20, A20, S20, Nl20, M20⟩ := id F21
    have hin20 : ¬ ((1 : Int32) < 0 ∨ cl20.slots.size ≤ ((1 : Int32)).toNatClampNeg) := AV.inb S20 Nl20 ⟨by decide, by decide⟩
    have hat20 : cl20.slots[((1 : Int32)).toNatClampNeg]? = some (.int (3 : Int32)) := AV.at S20 rfl
    obtain ⟨cl22, A22, S22, Nl22, M22⟩ := id V15
    have hin22 : ¬ ((3 : Int32) < 0 ∨ cl22.slots.size ≤ ((3 : Int32)).toNatClampNeg) := AV.inb S22 Nl22 ⟨by decide, by decide⟩
    have hat22 : cl22.slots[((3 : Int32)).toNatClampNeg]? = some (.int x3) := AV.at S22 rfl
    obtain ⟨cl23, A23, S23, Nl23, M23⟩ := id V15
    have hin23 : ¬ ((3 : Int32) < 0 ∨ cl23.slots.size ≤ ((3 : Int32)).toNatClampNeg) := AV.inb S23 Nl23 ⟨by decide, by decide⟩
    obtain ⟨T23, h23, X23, e23, W23, st23⟩ := stI X18 hx hZ e18 A23 (j := (3 : Int32)) hin23 (g := (mkF m 24 #[.val (.ref a1), .val (.int (1 : Int32)), .val (.int p3)] [(.int (x3 + p3)), (.int (3 : Int32)), (.ref r)])) rfl rfl (hb hby d3_24)
    have V23 : AV Z h23 r .int (4 : Int32) [(.int x0), (.int (x1 - p3)), (.int x2), (.int (x3 + p3))] := AV.set A23 S23 Nl23 M23 W23
    have K23 : Keep h0 h23 [r] := K15.wr W23 (Or.inl (List.mem_of_getElem? (i := 0) rfl))
    have N23 := Fr.snoc X23 N15 g_r
    obtain ⟨fs, hr, hrun, hended, hW, hsame⟩ := X23.leave (v := none) (fun _ => rfl)
    refine ⟨_, _, pre0 _ ?_, hrun, hended, _, _, rfl, ?_, ⟨_, rfl⟩, hW, hsame.mono (by decide) (by decide)⟩
    · show Steps p.tables e below (s₁.setTop (mkF m 0 #[.val (.ref a1), .val (.int (1 : Int32)), .val (.int p3)] [])) _
      refine XS.aloadN X0.here hx rfl (hb hby d3_0) rfl rfl ?_
      show Steps p.tables e below (s₁.setTop (mkF m 1 #[.val (.ref a1), .val (.int (1 : Int32)), .val (.int p3)] [(.ref a1)])) _
      refine st13 _ ?_
      show Steps p.tables e below (T13.setTop (mkF m 4 #[.val (.ref a1), .val (.int (1 : Int32)), .val (.int p3)] [(.ref r)])) _
      refine XS.iloadN X13.here hx rfl (hb hby d3_4) rfl ?_
      show Steps p.tables e below (T13.setTop (mkF m 5 #[.val (.ref a1), .val (.int (1 : Int32)), .val (.int p3)] [(.int (1 : Int32)), (.ref r)])) _
      jvm_step X13.here [X13.here.top, hx, (hb hby d3_5), Value.category]
      show Steps p.tables e below (T13.setTop (mkF m 6 #[.val (.ref a1), .val (.int (1 : Int32)), .val (.int p3)] [(.int (1 : Int32)), (.ref r), (.int (1 : Int32)), (.ref r)])) _
      refine X13.iaload hx (j := (1 : Int32)) (v := (.int x1)) (by rw [e13]; exact A14.1) (State.isArrayOf_alike hZ.alike A14.2.1) A14.2.2 hin14 hat14 (g := (mkF m 6 #[.val (.ref a1), .val (.int (1 : Int32)), .val (.int p3)] [(.int (1 : Int32)), (.ref r), (.int (1 : Int32)), (.ref r)])) rfl rfl (hb hby d3_6) _ ?_
      show Steps p.tables e below (T13.setTop (mkF m 7 #[.val (.ref a1), .val (.int (1 : Int32)), .val (.int p3)] [(.int x1), (.int (1 : Int32)), (.ref r)])) _
      refine XS.iloadN X13.here hx rfl (hb hby d3_7) rfl ?_
      show Steps p.tables e below (T13.setTop (mkF m 8 #[.val (.ref a1), .val (.int (1 : Int32)), .val (.int p3)] [(.int p3), (.int x1), (.int (1 : Int32)), (.ref r)])) _
      refine XS.isub X13.here hx rfl (hb hby d3_8) rfl ?_
      show Steps p.tables e below (T13.setTop (mkF m 9 #[.val (.ref a1), .val (.int (1 : Int32)), .val (.int p3)] [(.int (x1 - p3)), (.int (1 : Int32)), (.ref r)])) _
      refine st15 _ ?_
      show Steps p.tables e below (T15.setTop (mkF m 10 #[.val (.ref a1), .val (.int (1 : Int32)), .val (.int p3)] [])) _
      refine XS.aloadN X15.here hx rfl (hb hby d3_10) rfl rfl ?_
      show Steps p.tables e below (T15.setTop (mkF m 11 #[.val (.ref a1), .val (.int (1 : Int32)), .val (.int p3)] [(.ref a1)])) _
      refine st16 _ ?_
      show Steps p.tables e below (T16.setTop (mkF m 14 #[.val (.ref a1), .val (.int (1 : Int32)), .val (.int p3)] [(.ref r)])) _
      refine XS.aloadN X16.here hx rfl (hb hby d3_14) rfl rfl ?_
      show Steps p.tables e below (T16.setTop (mkF m 15 #[.val (.ref a1), .val (.int (1 : Int32)), .val (.int p3)] [(.ref a1), (.ref r)])) _
      refine st18 _ ?_
      show Steps p.tables e below (T18.setTop (mkF m 18 #[.val (.ref a1), .val (.int (1 : Int32)), .val (.int p3)] [(.ref mt), (.ref r)])) _
      refine XS.iloadN X18.here hx rfl (hb hby d3_18) rfl ?_
      show Steps p.tables e below (T18.setTop (mkF m 19 #[.val (.ref a1), .val (.int (1 : Int32)), .val (.int p3)] [(.int (1 : Int32)), (.ref mt), (.ref r)])) _
      refine X18.iaload hx (j := (1 : Int32)) (v := (.int (3 : Int32))) (by rw [e18]; exact A20.1) (State.isArrayOf_alike hZ.alike A20.2.1) A20.2.2 hin20 hat20 (g := (mkF m 19 #[.val (.ref a1), .val (.int (1 : Int32)), .val (.int p3)] [(.int (1 : Int32)), (.ref mt), (.ref r)])) rfl rfl (hb hby d3_19) _ ?_
      show Steps p.tables e below (T18.setTop (mkF m 20 #[.val (.ref a1), .val (.int (1 : Int32)), .val (.int p3)] [(.int (3 : Int32)), (.ref r)])) _
      jvm_step X18.here [X18.here.top, hx, (hb hby d3_20), Value.category]
      show Steps p.tables e below (T18.setTop (mkF m 21 #[.val (.ref a1), .val (.int (1 : Int32)), .val (.int p3)] [(.int (3 : Int32)), (.ref r), (.int (3 : Int32)), (.ref r)])) _
      refine X18.iaload hx (j := (3 : Int32)) (v := (.int x3)) (by rw [e18]; exact A22.1) (State.isArrayOf_alike hZ.alike A22.2.1) A22.2.2 hin22 hat22 (g := (mkF m 21 #[.val (.ref a1), .val (.int (1 : Int32)), .val (.int p3)] [(.int (3 : Int32)), (.ref r), (.int (3 : Int32)), (.ref r)])) rfl rfl (hb hby d3_21) _ ?_
      show Steps p.tables e below (T18.setTop (mkF m 22 #[.val (.ref a1), .val (.int (1 : Int32)), .val (.int p3)] [(.int x3), (.int (3 : Int32)), (.ref r)])) _
      refine XS.iloadN X18.here hx rfl (hb hby d3_22) rfl ?_
      show Steps p.tables e below (T18.setTop (mkF m 23 #[.val (.ref a1), .val (.int (1 : Int32)), .val (.int p3)] [(.int p3), (.int x3), (.int (3 : Int32)), (.ref r)])) _
      refine XS.iadd X18.here hx rfl (hb hby d3_23) rfl ?_
      show Steps p.tables e below (T18.setTop (mkF m 24 #[.val (.ref a1), .val (.int (1 : Int32)), .val (.int p3)] [(.int (x3 + p3)), (.int (3 : Int32)), (.ref r)])) _
      refine st23 _ ?_
      show Steps p.tables e below (T23.setTop (mkF m 25 #[.val (.ref a1), .val (.int (1 : Int32)), .val (.int p3)] [])) _
      exact X23.returnOut hx Bd.returns (hb hby d3_25) hr
    · show Q3 Z a1 (1 : Int32) p3 r mt x0 x1 x2 x3 h0 n0 _ T23.heap _
      rw [e23]
      exact ⟨rfl, N23, K23, V23⟩
  · obtain ⟨T25, X25, e25, st25⟩ := getF X0 hx hZ hown (host := "") (Or.inl (hw _ (List.mem_of_getElem? (i := 21) rfl))) Via.refl e0 F_a1_residual (g := (mkF m 1 #[.val (.ref a1), .val (.int (2 : Int32)), .val (.int p3)] [(.ref a1)])) rfl rfl (hb hby d3_1)
    obtain ⟨cl26, A26, S26, Nl26, M26⟩ := id V_r
    have hin26 : ¬ ((2 : Int32) < 0 ∨ cl26.slots.size ≤ ((2 : Int32)).toNatClampNeg) := AV.inb S26 Nl26 ⟨by decide, by decide⟩
    have hat26 : cl26.slots[((2 : Int32)).toNatClampNeg]? = some (.int x2) := AV.at S26 rfl
    obtain ⟨cl27, A27, S27, Nl27, M27⟩ := id V_r
    have hin27 : ¬ ((2 : Int32) < 0 ∨ cl27.slots.size ≤ ((2 : Int32)).toNatClampNeg) := AV.inb S27 Nl27 ⟨by decide, by decide⟩
    obtain ⟨T27, h27, X27, e27, W27, st27⟩ := stI X25 hx hZ e25 A27 (j := (2 : Int32)) hin27 (g := (mkF m 9 #[.val (.ref a1), .val (.int (2 : Int32)), .val (.int p3)] [(.int (x2 - p3)), (.int (2 : Int32)), (.ref r)])) rfl rfl (hb hby d3_9)
    have V27 : AV Z h27 r .int (4 : Int32) [(.int x0), (.int x1), (.int (x2 - p3)), (.int x3)] := AV.set A27 S27 Nl27 M27 W27
    have K27 : Keep h0 h27 [r] := (Keep.refl h0 [r]).wr W27 (Or.inl (List.mem_of_getElem? (i := 0) rfl))
    have N27 := Fr.snoc X27 N0 g_r
    have F29 := (F_a1_residual.other W27 (Or.inl ne_a1_r))
    obtain ⟨T28, X28, e28, st28⟩ := getF X27 hx hZ hown (host := "") (Or.inl (hw _ (List.mem_of_getElem? (i := 21) rfl))) Via.refl e27 F29 (g := (mkF m 11 #[.val (.ref a1), .val (.int (2 : Int32)), .val (.int p3)] [(.ref a1)])) rfl rfl (hb hby d3_11)
    have F31 := (F_a1_mate.other W27 (Or.inl ne_a1_r))
    obtain ⟨T30, X30, e30, st30⟩ := getF X28 hx hZ hown (host := "") (Or.inl (hw _ (List.mem_of_getElem? (i := 19) rfl))) Via.refl e28 F31 (g := (mkF m 15 #[.val (.ref a1), .val (.int (2 : Int32)), .val (.int p3)] [(.ref a1), (.ref r)])) rfl rfl (hb hby d3_15)
    have F33 := (V_mt.other W27 ne_mt_r)
    obtain ⟨cl32, A32, S32, Nl32, M32⟩ := id F33
    have hin32 : ¬ ((2 : Int32) < 0 ∨ cl32.slots.size ≤ ((2 : Int32)).toNatClampNeg) := AV.inb S32 Nl32 ⟨by decide, by decide⟩
    have hat32 : cl32.slots[((2 : Int32)).toNatClampNeg]? = some (.int (0 : Int32)) := AV.at S32 rfl
    obtain ⟨cl34, A34, S34, Nl34, M34⟩ := id V27
    have hin34 : ¬ ((0 : Int32) < 0 ∨ cl34.slots.size ≤ ((0 : Int32)).toNatClampNeg) := AV.inb S34 Nl34 ⟨by decide, by decide⟩
    have hat34 : cl34.slots[((0 : Int32)).toNatClampNeg]? = some (.int x0) := AV.at S34 rfl
    obtain ⟨cl35, A35, S35, Nl35, M35⟩ := id V27
    have hin35 : ¬ ((0 : Int32) < 0 ∨ cl35.slots.size ≤ ((0 : Int32)).toNatClampNeg) := AV.inb S35 Nl35 ⟨by decide, by decide⟩
    obtain ⟨T35, h35, X35, e35, W35, st35⟩ := stI X30 hx hZ e30 A35 (j := (0 : Int32)) hin35 (g := (mkF m 24 #[.val (.ref a1), .val (.int (2 : Int32)), .val (.int p3)] [(.int (x0 + p3)), (.int (0 : Int32)), (.ref r)])) rfl rfl (hb hby d3_24)
    have V35 : AV Z h35 r .int (4 : Int32) [(.int (x0 + p3)), (.int x1), (.int (x2 - p3)), (.int x3)] := AV.set A35 S35 Nl35 M35 W35
    have K35 : Keep h0 h35 [r] := K27.wr W35 (Or.inl (List.mem_of_getElem? (i := 0) rfl))
    have N35 := Fr.snoc X35 N27 g_r
    obtain ⟨fs, hr, hrun, hended, hW, hsame⟩ := X35.leave (v := none) (fun _ => rfl)
    refine ⟨_, _, pre0 _ ?_, hrun, hended, _, _, rfl, ?_, ⟨_, rfl⟩, hW, hsame.mono (by decide) (by decide)⟩
    · show Steps p.tables e below (s₁.setTop (mkF m 0 #[.val (.ref a1), .val (.int (2 : Int32)), .val (.int p3)] [])) _
      refine XS.aloadN X0.here hx rfl (hb hby d3_0) rfl rfl ?_
      show Steps p.tables e below (s₁.setTop (mkF m 1 #[.val (.ref a1), .val (.int (2 : Int32)), .val (.int p3)] [(.ref a1)])) _
      refine st25 _ ?_
      show Steps p.tables e below (T25.setTop (mkF m 4 #[.val (.ref a1), .val (.int (2 : Int32)), .val (.int p3)] [(.ref r)])) _
      refine XS.iloadN X25.here hx rfl (hb hby d3_4) rfl ?_
      show Steps p.tables e below (T25.setTop (mkF m 5 #[.val (.ref a1), .val (.int (2 : Int32)), .val (.int p3)] [(.int (2 : Int32)), (.ref r)])) _
      jvm_step X25.here [X25.here.top, hx, (hb hby d3_5), Value.category]
      show Steps p.tables e below (T25.setTop (mkF m 6 #[.val (.ref a1), .val (.int (2 : Int32)), .val (.int p3)] [(.int (2 : Int32)), (.ref r), (.int (2 : Int32)), (.ref r)])) _
      refine X25.iaload hx (j := (2 : Int32)) (v := (.int x2)) (by rw [e25]; exact A26.1) (State.isArrayOf_alike hZ.alike A26.2.1) A26.2.2 hin26 hat26 (g := (mkF m 6 #[.val (.ref a1), .val (.int (2 : Int32)), .val (.int p3)] [(.int (2 : Int32)), (.ref r), (.int (2 : Int32)), (.ref r)])) rfl rfl (hb hby d3_6) _ ?_
      show Steps p.tables e below (T25.setTop (mkF m 7 #[.val (.ref a1), .val (.int (2 : Int32)), .val (.int p3)] [(.int x2), (.int (2 : Int32)), (.ref r)])) _
      refine XS.iloadN X25.here hx rfl (hb hby d3_7) rfl ?_
      show Steps p.tables e below (T25.setTop (mkF m 8 #[.val (.ref a1), .val (.int (2 : Int32)), .val (.int p3)] [(.int p3), (.int x2), (.int (2 : Int32)), (.ref r)])) _
      refine XS.isub X25.here hx rfl (hb hby d3_8) rfl ?_
      show Steps p.tables e below (T25.setTop (mkF m 9 #[.val (.ref a1), .val (.int (2 : Int32)), .val (.int p3)] [(.int (x2 - p3)), (.int (2 : Int32)), (.ref r)])) _
      refine st27 _ ?_
      show Steps p.tables e below (T27.setTop (mkF m 10 #[.val (.ref a1), .val (.int (2 : Int32)), .val (.int p3)] [])) _
      refine XS.aloadN X27.here hx rfl (hb hby d3_10) rfl rfl ?_
      show Steps p.tables e below (T27.setTop (mkF m 11 #[.val (.ref a1), .val (.int (2 : Int32)), .val (.int p3)] [(.ref a1)])) _
      refine st28 _ ?_
      show Steps p.tables e below (T28.setTop (mkF m 14 #[.val (.ref a1), .val (.int (2 : Int32)), .val (.int p3)] [(.ref r)])) _
      refine XS.aloadN X28.here hx rfl (hb hby d3_14) rfl rfl ?_
      show Steps p.tables e below (T28.setTop (mkF m 15 #[.val (.ref a1), .val (.int (2 : Int32)), .val (.int p3)] [(.ref a1), (.ref r)])) _
      refine st30 _ ?_
      show Steps p.tables e below (T30.setTop (mkF m 18 #[.val (.ref a1), .val (.int (2 : Int32)), .val (.int p3)] [(.ref mt), (.ref r)])) _
      refine XS.iloadN X30.here hx rfl (hb hby d3_18) rfl ?_
      show Steps p.tables e below (T30.setTop (mkF m 19 #[.val (.ref a1), .val (.int (2 : Int32)), .val (.int p3)] [(.int (2 : Int32)), (.ref mt), (.ref r)])) _
      refine X30.iaload hx (j := (2 : Int32)) (v := (.int (0 : Int32))) (by rw [e30]; exact A32.1) (State.isArrayOf_alike hZ.alike A32.2.1) A32.2.2 hin32 hat32 (g := (mkF m 19 #[.val (.ref a1), .val (.int (2 : Int32)), .val (.int p3)] [(.int (2 : Int32)), (.ref mt), (.ref r)])) rfl rfl (hb hby d3_19) _ ?_
      show Steps p.tables e below (T30.setTop (mkF m 20 #[.val (.ref a1), .val (.int (2 : Int32)), .val (.int p3)] [(.int (0 : Int32)), (.ref r)])) _
      jvm_step X30.here [X30.here.top, hx, (hb hby d3_20), Value.category]
      show Steps p.tables e below (T30.setTop (mkF m 21 #[.val (.ref a1), .val (.int (2 : Int32)), .val (.int p3)] [(.int (0 : Int32)), (.ref r), (.int (0 : Int32)), (.ref r)])) _
      refine X30.iaload hx (j := (0 : Int32)) (v := (.int x0)) (by rw [e30]; exact A34.1) (State.isArrayOf_alike hZ.alike A34.2.1) A34.2.2 hin34 hat34 (g := (mkF m 21 #[.val (.ref a1), .val (.int (2 : Int32)), .val (.int p3)] [(.int (0 : Int32)), (.ref r), (.int (0 : Int32)), (.ref r)])) rfl rfl (hb hby d3_21) _ ?_
      show Steps p.tables e below (T30.setTop (mkF m 22 #[.val (.ref a1), .val (.int (2 : Int32)), .val (.int p3)] [(.int x0), (.int (0 : Int32)), (.ref r)])) _
      refine XS.iloadN X30.here hx rfl (hb hby d3_22) rfl ?_
      show Steps p.tables e below (T30.setTop (mkF m 23 #[.val (.ref a1), .val (.int (2 : Int32)), .val (.int p3)] [(.int p3), (.int x0), (.int (0 : Int32)), (.ref r)])) _
      refine XS.iadd X30.here hx rfl (hb hby d3_23) rfl ?_
      show Steps p.tables e below (T30.setTop (mkF m 24 #[.val (.ref a1), .val (.int (2 : Int32)), .val (.int p3)] [(.int (x0 + p3)), (.int (0 : Int32)), (.ref r)])) _
      refine st35 _ ?_
      show Steps p.tables e below (T35.setTop (mkF m 25 #[.val (.ref a1), .val (.int (2 : Int32)), .val (.int p3)] [])) _
      exact X35.returnOut hx Bd.returns (hb hby d3_25) hr
    · show Q3 Z a1 (2 : Int32) p3 r mt x0 x1 x2 x3 h0 n0 _ T35.heap _
      rw [e35]
      exact ⟨rfl, N35, K35, V35⟩
  · obtain ⟨T37, X37, e37, st37⟩ := getF X0 hx hZ hown (host := "") (Or.inl (hw _ (List.mem_of_getElem? (i := 21) rfl))) Via.refl e0 F_a1_residual (g := (mkF m 1 #[.val (.ref a1), .val (.int (3 : Int32)), .val (.int p3)] [(.ref a1)])) rfl rfl (hb hby d3_1)
    obtain ⟨cl38, A38, S38, Nl38, M38⟩ := id V_r
    have hin38 : ¬ ((3 : Int32) < 0 ∨ cl38.slots.size ≤ ((3 : Int32)).toNatClampNeg) := AV.inb S38 Nl38 ⟨by decide, by decide⟩
    have hat38 : cl38.slots[((3 : Int32)).toNatClampNeg]? = some (.int x3) := AV.at S38 rfl
    obtain ⟨cl39, A39, S39, Nl39, M39⟩ := id V_r
    have hin39 : ¬ ((3 : Int32) < 0 ∨ cl39.slots.size ≤ ((3 : Int32)).toNatClampNeg) := AV.inb S39 Nl39 ⟨by decide, by decide⟩
    obtain ⟨T39, h39, X39, e39, W39, st39⟩ := stI X37 hx hZ e37 A39 (j := (3 : Int32)) hin39 (g := (mkF m 9 #[.val (.ref a1), .val (.int (3 : Int32)), .val (.int p3)] [(.int (x3 - p3)), (.int (3 : Int32)), (.ref r)])) rfl rfl (hb hby d3_9)
    have V39 : AV Z h39 r .int (4 : Int32) [(.int x0), (.int x1), (.int x2), (.int (x3 - p3))] := AV.set A39 S39 Nl39 M39 W39
    have K39 : Keep h0 h39 [r] := (Keep.refl h0 [r]).wr W39 (Or.inl (List.mem_of_getElem? (i := 0) rfl))
    have N39 := Fr.snoc X39 N0 g_r
    have F41 := (F_a1_residual.other W39 (Or.inl ne_a1_r))
    obtain ⟨T40, X40, e40, st40⟩ := getF X39 hx hZ hown (host := "") (Or.inl (hw _ (List.mem_of_getElem? (i := 21) rfl))) Via.refl e39 F41 (g := (mkF m 11 #[.val (.ref a1), .val (.int (3 : Int32)), .val (.int p3)] [(.ref a1)])) rfl rfl (hb hby d3_11)
    have F43 := (F_a1_mate.other W39 (Or.inl ne_a1_r))
    obtain ⟨T42, X42, e42, st42⟩ := getF X40 hx hZ hown (host := "") (Or.inl (hw _ (List.mem_of_getElem? (i := 19) rfl))) Via.refl e40 F43 (g := (mkF m 15 #[.val (.ref a1), .val (.int (3 : Int32)), .val (.int p3)] [(.ref a1), (.ref r)])) rfl rfl (hb hby d3_15)
    have F45 := (V_mt.other W39 ne_mt_r)
    obtain ⟨cl44, A44, S44, Nl44, M44⟩ := id F45
    have hin44 : ¬ ((3 : Int32) < 0 ∨ cl44.slots.size ≤ ((3 : Int32)).toNatClampNeg) := AV.inb S44 Nl44 ⟨by decide, by decide⟩
    have hat44 : cl44.slots[((3 : Int32)).toNatClampNeg]? = some (.int (1 : Int32)) := AV.at S44 rfl
    obtain ⟨cl46, A46, S46, Nl46, M46⟩ := id V39
    have hin46 : ¬ ((1 : Int32) < 0 ∨ cl46.slots.size ≤ ((1 : Int32)).toNatClampNeg) := AV.inb S46 Nl46 ⟨by decide, by decide⟩
    have hat46 : cl46.slots[((1 : Int32)).toNatClampNeg]? = some (.int x1) := AV.at S46 rfl
    obtain ⟨cl47, A47, S47, Nl47, M47⟩ := id V39
    have hin47 : ¬ ((1 : Int32) < 0 ∨ cl47.slots.size ≤ ((1 : Int32)).toNatClampNeg) := AV.inb S47 Nl47 ⟨by decide, by decide⟩
    obtain ⟨T47, h47, X47, e47, W47, st47⟩ := stI X42 hx hZ e42 A47 (j := (1 : Int32)) hin47 (g := (mkF m 24 #[.val (.ref a1), .val (.int (3 : Int32)), .val (.int p3)] [(.int (x1 + p3)), (.int (1 : Int32)), (.ref r)])) rfl rfl (hb hby d3_24)
    have V47 : AV Z h47 r .int (4 : Int32) [(.int x0), (.int (x1 + p3)), (.int x2), (.int (x3 - p3))] := AV.set A47 S47 Nl47 M47 W47
    have K47 : Keep h0 h47 [r] := K39.wr W47 (Or.inl (List.mem_of_getElem? (i := 0) rfl))
    have N47 := Fr.snoc X47 N39 g_r
    obtain ⟨fs, hr, hrun, hended, hW, hsame⟩ := X47.leave (v := none) (fun _ => rfl)
    refine ⟨_, _, pre0 _ ?_, hrun, hended, _, _, rfl, ?_, ⟨_, rfl⟩, hW, hsame.mono (by decide) (by decide)⟩
    · show Steps p.tables e below (s₁.setTop (mkF m 0 #[.val (.ref a1), .val (.int (3 : Int32)), .val (.int p3)] [])) _
      refine XS.aloadN X0.here hx rfl (hb hby d3_0) rfl rfl ?_
      show Steps p.tables e below (s₁.setTop (mkF m 1 #[.val (.ref a1), .val (.int (3 : Int32)), .val (.int p3)] [(.ref a1)])) _
      refine st37 _ ?_
      show Steps p.tables e below (T37.setTop (mkF m 4 #[.val (.ref a1), .val (.int (3 : Int32)), .val (.int p3)] [(.ref r)])) _
      refine XS.iloadN X37.here hx rfl (hb hby d3_4) rfl ?_
      show Steps p.tables e below (T37.setTop (mkF m 5 #[.val (.ref a1), .val (.int (3 : Int32)), .val (.int p3)] [(.int (3 : Int32)), (.ref r)])) _
      jvm_step X37.here [X37.here.top, hx, (hb hby d3_5), Value.category]
      show Steps p.tables e below (T37.setTop (mkF m 6 #[.val (.ref a1), .val (.int (3 : Int32)), .val (.int p3)] [(.int (3 : Int32)), (.ref r), (.int (3 : Int32)), (.ref r)])) _
      refine X37.iaload hx (j := (3 : Int32)) (v := (.int x3)) (by rw [e37]; exact A38.1) (State.isArrayOf_alike hZ.alike A38.2.1) A38.2.2 hin38 hat38 (g := (mkF m 6 #[.val (.ref a1), .val (.int (3 : Int32)), .val (.int p3)] [(.int (3 : Int32)), (.ref r), (.int (3 : Int32)), (.ref r)])) rfl rfl (hb hby d3_6) _ ?_
      show Steps p.tables e below (T37.setTop (mkF m 7 #[.val (.ref a1), .val (.int (3 : Int32)), .val (.int p3)] [(.int x3), (.int (3 : Int32)), (.ref r)])) _
      refine XS.iloadN X37.here hx rfl (hb hby d3_7) rfl ?_
      show Steps p.tables e below (T37.setTop (mkF m 8 #[.val (.ref a1), .val (.int (3 : Int32)), .val (.int p3)] [(.int p3), (.int x3), (.int (3 : Int32)), (.ref r)])) _
      refine XS.isub X37.here hx rfl (hb hby d3_8) rfl ?_
      show Steps p.tables e below (T37.setTop (mkF m 9 #[.val (.ref a1), .val (.int (3 : Int32)), .val (.int p3)] [(.int (x3 - p3)), (.int (3 : Int32)), (.ref r)])) _
      refine st39 _ ?_
      show Steps p.tables e below (T39.setTop (mkF m 10 #[.val (.ref a1), .val (.int (3 : Int32)), .val (.int p3)] [])) _
      refine XS.aloadN X39.here hx rfl (hb hby d3_10) rfl rfl ?_
      show Steps p.tables e below (T39.setTop (mkF m 11 #[.val (.ref a1), .val (.int (3 : Int32)), .val (.int p3)] [(.ref a1)])) _
      refine st40 _ ?_
      show Steps p.tables e below (T40.setTop (mkF m 14 #[.val (.ref a1), .val (.int (3 : Int32)), .val (.int p3)] [(.ref r)])) _
      refine XS.aloadN X40.here hx rfl (hb hby d3_14) rfl rfl ?_
      show Steps p.tables e below (T40.setTop (mkF m 15 #[.val (.ref a1), .val (.int (3 : Int32)), .val (.int p3)] [(.ref a1), (.ref r)])) _
      refine st42 _ ?_
      show Steps p.tables e below (T42.setTop (mkF m 18 #[.val (.ref a1), .val (.int (3 : Int32)), .val (.int p3)] [(.ref mt), (.ref r)])) _
      refine XS.iloadN X42.here hx rfl (hb hby d3_18) rfl ?_
      show Steps p.tables e below (T42.setTop (mkF m 19 #[.val (.ref a1), .val (.int (3 : Int32)), .val (.int p3)] [(.int (3 : Int32)), (.ref mt), (.ref r)])) _
      refine X42.iaload hx (j := (3 : Int32)) (v := (.int (1 : Int32))) (by rw [e42]; exact A44.1) (State.isArrayOf_alike hZ.alike A44.2.1) A44.2.2 hin44 hat44 (g := (mkF m 19 #[.val (.ref a1), .val (.int (3 : Int32)), .val (.int p3)] [(.int (3 : Int32)), (.ref mt), (.ref r)])) rfl rfl (hb hby d3_19) _ ?_
      show Steps p.tables e below (T42.setTop (mkF m 20 #[.val (.ref a1), .val (.int (3 : Int32)), .val (.int p3)] [(.int (1 : Int32)), (.ref r)])) _
      jvm_step X42.here [X42.here.top, hx, (hb hby d3_20), Value.category]
      show Steps p.tables e below (T42.setTop (mkF m 21 #[.val (.ref a1), .val (.int (3 : Int32)), .val (.int p3)] [(.int (1 : Int32)), (.ref r), (.int (1 : Int32)), (.ref r)])) _
      refine X42.iaload hx (j := (1 : Int32)) (v := (.int x1)) (by rw [e42]; exact A46.1) (State.isArrayOf_alike hZ.alike A46.2.1) A46.2.2 hin46 hat46 (g := (mkF m 21 #[.val (.ref a1), .val (.int (3 : Int32)), .val (.int p3)] [(.int (1 : Int32)), (.ref r), (.int (1 : Int32)), (.ref r)])) rfl rfl (hb hby d3_21) _ ?_
      show Steps p.tables e below (T42.setTop (mkF m 22 #[.val (.ref a1), .val (.int (3 : Int32)), .val (.int p3)] [(.int x1), (.int (1 : Int32)), (.ref r)])) _
      refine XS.iloadN X42.here hx rfl (hb hby d3_22) rfl ?_
      show Steps p.tables e below (T42.setTop (mkF m 23 #[.val (.ref a1), .val (.int (3 : Int32)), .val (.int p3)] [(.int p3), (.int x1), (.int (1 : Int32)), (.ref r)])) _
      refine XS.iadd X42.here hx rfl (hb hby d3_23) rfl ?_
      show Steps p.tables e below (T42.setTop (mkF m 24 #[.val (.ref a1), .val (.int (3 : Int32)), .val (.int p3)] [(.int (x1 + p3)), (.int (1 : Int32)), (.ref r)])) _
      refine st47 _ ?_
      show Steps p.tables e below (T47.setTop (mkF m 25 #[.val (.ref a1), .val (.int (3 : Int32)), .val (.int p3)] [])) _
      exact X47.returnOut hx Bd.returns (hb hby d3_25) hr
    · show Q3 Z a1 (3 : Int32) p3 r mt x0 x1 x2 x3 h0 n0 _ T47.heap _
      rw [e47]
      exact ⟨rfl, N47, K47, V47⟩
theorem d5_0 : decode method_2_code 0 = .ok (.iload_n 0, 1) := by decide +kernel
theorem d5_1 : decode method_2_code 1 = .ok (.ifCond .ne 5, 3) := by decide +kernel
theorem d5_4 : decode method_2_code 4 = .ok (.iload_n 1, 1) := by decide +kernel
theorem d5_5 : decode method_2_code 5 = .ok (.ireturn, 1) := by decide +kernel
theorem d5_6 : decode method_2_code 6 = .ok (.iload_n 0, 1) := by decide +kernel
theorem d5_7 : decode method_2_code 7 = .ok (.iconst 3, 1) := by decide +kernel
theorem d5_8 : decode method_2_code 8 = .ok (.if_icmp .ne 5, 3) := by decide +kernel
theorem d5_11 : decode method_2_code 11 = .ok (.iload_n 2, 1) := by decide +kernel
theorem d5_12 : decode method_2_code 12 = .ok (.ireturn, 1) := by decide +kernel
theorem d5_13 : decode method_2_code 13 = .ok (.iconst 0, 1) := by decide +kernel
theorem d5_14 : decode method_2_code 14 = .ok (.ireturn, 1) := by decide +kernel
theorem pn_1 : plainName "com/example/hindsight/hindsight/solvers/ResidualNetworkPushPinLaw" = true := by first | (simp [plainName, overriddenIn]; done) | decide +kernel
def f5 (p1 : Int32) (p2 : Int32) (p3 : Int32) : Int32 := if p1 = (0 : Int32) then p2 else if p1 = (3 : Int32) then p3 else (0 : Int32)
theorem ef_5 (m : MethodId) (x0 : Int32) (x1 : Int32) (x2 : Int32) : entryFrame m #[(.int x0), (.int x1), (.int x2)] 3 = mkF m 0 #[.val (.int x0), .val (.int x1), .val (.int x2)] [] := by first | (simp [entryFrame, mkF, argsToLocals, Value.category]; done) | rfl
def Q5 (Z : State) (p1 : Int32) (p2 : Int32) (p3 : Int32) (h0 : Heap) (n0 : Nat) (v : Option Value) (h : Heap) (L : List Loc) : Prop := v = some (.int (f5 p1 p2 p3)) ∧ Fr n0 L ∧ h = h0
set_option maxRecDepth 65536 in
set_option maxHeartbeats 40000000 in
theorem rm5 (l : Launch) (Z : State) (a0 : Array Value) (hw : ∀ d ∈ tables_1, d.before a0 Z = true) (ws : List Jvm.Cond) (p1 : Int32) (p2 : Int32) (p3 : Int32) (h0 : Heap) (n0 : Nat) (Z0 : n0 ≤ h0.size) :
    MetFree l (⟨"com/example/hindsight/hindsight/solvers/ResidualNetworkPushPinLaw", "initial", "(III)I"⟩ : MethodName) (head1 (Jvm.Cond.code (⟨"com/example/hindsight/hindsight/solvers/ResidualNetworkPushPinLaw", "initial", "(III)I"⟩ : MethodName) method_2_code 3 (some .int) :: ws) ({ frames := 0, cells := 0, slots := 0, locals := 0 } : Room)) (fun a U => a = #[(.int p1), (.int p2), (.int p3)] ∧ Z.Warmed39 U.vm ∧ U.heap = h0) (fun _ _ _ _ _ => True) (fun _ U o U' => ∃ v L, o = .returned v ∧ Q5 Z p1 p2 p3 h0 n0 v U'.heap L ∧ FrameEnd U o U' L ({ frames := 0, cells := 0, slots := 0, locals := 0 } : Room).cells ({ frames := 0, cells := 0, slots := 0, locals := 0 } : Room).slots) := by
  refine MetFree.of_bodySF (plainFor_of_name pn_1) hisR ?_
  intro p e s m args below meth c s₁ Bd hml0 hP hK
  obtain ⟨rfl, hZ, hh⟩ := hP
  have hx := Bd.exec
  have hby := Bd.bytes
  have hml : c.maxLocals = 3 := hml0
  have hown : s.vm.findClass "com/example/hindsight/hindsight/solvers/ResidualNetworkPushPinLaw" = some m.cls := findClass_of_methodNamed Bd.named
  have hnm := (name_of_methodNamed Bd.named Bd.method).1
  have X0 : Stand p l e ({ frames := 0, cells := 0, slots := 0, locals := 0 } : Room) s m #[(.int p1), (.int p2), (.int p3)] below meth c s₁ [] 0 0 := Stand.of_body Bd
  have e0 : s₁.heap = h0 := by rw [← hh, Bd.state]; rfl
  have N0 := Fr.nil n0
  have pre0 : ∀ t, Steps p.tables e below (s₁.setTop (mkF m 0 #[.val (.int p1), .val (.int p2), .val (.int p3)] [])) t → Steps p.tables e below (s₁.setTop (entryFrame m #[(.int p1), (.int p2), (.int p3)] 3)) t := fun t k => castTop (ef_5 m p1 p2 p3) k
  have pre1 : ∀ t, Steps p.tables e below (s₁.setTop (mkF m 1 #[.val (.int p1), .val (.int p2), .val (.int p3)] [(.int p1)])) t → Steps p.tables e below (s₁.setTop (entryFrame m #[(.int p1), (.int p2), (.int p3)] 3)) t := fun t k => pre0 t (by
    show Steps p.tables e below (s₁.setTop (mkF m 0 #[.val (.int p1), .val (.int p2), .val (.int p3)] [])) _
    refine XS.iloadN X0.here hx rfl (hb hby d5_0) rfl ?_
    exact k)
  by_cases hc2 : p1 = (0 : Int32)
  · obtain ⟨fs, hr, hrun, hended, hW, hsame⟩ := X0.leave (v := some (.int p2)) (fun h => by rw [Bd.returns] at h; cases h)
    refine ⟨_, _, pre1 _ ?_, hrun, hended, _, _, rfl, ?_, ⟨_, rfl⟩, hW, hsame.mono (by decide) (by decide)⟩
    · show Steps p.tables e below (s₁.setTop (mkF m 1 #[.val (.int p1), .val (.int p2), .val (.int p3)] [(.int p1)])) _
      refine XS.ifNo X0.here hx rfl (hb hby d5_1) rfl ((if0 _ _).trans (teq hc2).2) ?_
      show Steps p.tables e below (s₁.setTop (mkF m 4 #[.val (.int p1), .val (.int p2), .val (.int p3)] [])) _
      refine XS.iloadN X0.here hx rfl (hb hby d5_4) rfl ?_
      show Steps p.tables e below (s₁.setTop (mkF m 5 #[.val (.int p1), .val (.int p2), .val (.int p3)] [(.int p2)])) _
      exact retI X0 hx Bd.returns (hb hby d5_5) hr
    · show Q5 Z p1 p2 p3 h0 n0 _ s₁.heap _
      rw [e0]
      exact ⟨by rw [show (f5 p1 p2 p3) = p2 from by first | (rw [f5, if_pos hc2]; done) | (simp only [f5, if_pos hc2]; done) | rfl], N0, rfl⟩
  · have pre4 : ∀ t, Steps p.tables e below (s₁.setTop (mkF m 8 #[.val (.int p1), .val (.int p2), .val (.int p3)] [(.int (3 : Int32)), (.int p1)])) t → Steps p.tables e below (s₁.setTop (entryFrame m #[(.int p1), (.int p2), (.int p3)] 3)) t := fun t k => pre1 t (by
      show Steps p.tables e below (s₁.setTop (mkF m 1 #[.val (.int p1), .val (.int p2), .val (.int p3)] [(.int p1)])) _
      refine XS.ifYes X0.here hx rfl (pc0 := 1) (pc' := 6) rfl (hb hby d5_1) rfl ((if0 _ _).trans (feq hc2).2) (by decide) (by decide) ?_
      show Steps p.tables e below (s₁.setTop (mkF m 6 #[.val (.int p1), .val (.int p2), .val (.int p3)] [])) _
      refine XS.iloadN X0.here hx rfl (hb hby d5_6) rfl ?_
      show Steps p.tables e below (s₁.setTop (mkF m 7 #[.val (.int p1), .val (.int p2), .val (.int p3)] [(.int p1)])) _
      refine XS.iconst X0.here hx rfl (hb hby d5_7) ?_
      exact k)
    by_cases hc5 : p1 = (3 : Int32)
    · obtain ⟨fs, hr, hrun, hended, hW, hsame⟩ := X0.leave (v := some (.int p3)) (fun h => by rw [Bd.returns] at h; cases h)
      refine ⟨_, _, pre4 _ ?_, hrun, hended, _, _, rfl, ?_, ⟨_, rfl⟩, hW, hsame.mono (by decide) (by decide)⟩
      · show Steps p.tables e below (s₁.setTop (mkF m 8 #[.val (.int p1), .val (.int p2), .val (.int p3)] [(.int (3 : Int32)), (.int p1)])) _
        refine XS.icmpNo X0.here hx rfl (hb hby d5_8) rfl (teq hc5).2 ?_
        show Steps p.tables e below (s₁.setTop (mkF m 11 #[.val (.int p1), .val (.int p2), .val (.int p3)] [])) _
        refine XS.iloadN X0.here hx rfl (hb hby d5_11) rfl ?_
        show Steps p.tables e below (s₁.setTop (mkF m 12 #[.val (.int p1), .val (.int p2), .val (.int p3)] [(.int p3)])) _
        exact retI X0 hx Bd.returns (hb hby d5_12) hr
      · show Q5 Z p1 p2 p3 h0 n0 _ s₁.heap _
        rw [e0]
        exact ⟨by rw [show (f5 p1 p2 p3) = p3 from by first | (rw [f5, if_neg hc2, if_pos hc5]; done) | (simp only [f5, if_neg hc2, if_pos hc5]; done) | rfl], N0, rfl⟩
    · obtain ⟨fs, hr, hrun, hended, hW, hsame⟩ := X0.leave (v := some (.int (0 : Int32))) (fun h => by rw [Bd.returns] at h; cases h)
      refine ⟨_, _, pre4 _ ?_, hrun, hended, _, _, rfl, ?_, ⟨_, rfl⟩, hW, hsame.mono (by decide) (by decide)⟩
      · show Steps p.tables e below (s₁.setTop (mkF m 8 #[.val (.int p1), .val (.int p2), .val (.int p3)] [(.int (3 : Int32)), (.int p1)])) _
        refine XS.icmpYes X0.here hx rfl (pc0 := 8) (pc' := 13) rfl (hb hby d5_8) rfl (feq hc5).2 (by decide) (by decide) ?_
        show Steps p.tables e below (s₁.setTop (mkF m 13 #[.val (.int p1), .val (.int p2), .val (.int p3)] [])) _
        refine XS.iconst X0.here hx rfl (hb hby d5_13) ?_
        show Steps p.tables e below (s₁.setTop (mkF m 14 #[.val (.int p1), .val (.int p2), .val (.int p3)] [(.int (0 : Int32))])) _
        exact retI X0 hx Bd.returns (hb hby d5_14) hr
      · show Q5 Z p1 p2 p3 h0 n0 _ s₁.heap _
        rw [e0]
        exact ⟨by rw [show (f5 p1 p2 p3) = (0 : Int32) from by first | (rw [f5, if_neg hc2, if_neg hc5]; done) | (simp only [f5, if_neg hc2, if_neg hc5]; done) | rfl], N0, rfl⟩
theorem d7_0 : decode method_3_code 0 = .ok (.iload_n 0, 1) := by decide +kernel
theorem d7_1 : decode method_3_code 1 = .ok (.ifCond .ne 5, 3) := by decide +kernel
theorem d7_4 : decode method_3_code 4 = .ok (.iconst 2, 1) := by decide +kernel
theorem d7_5 : decode method_3_code 5 = .ok (.ireturn, 1) := by decide +kernel
theorem d7_6 : decode method_3_code 6 = .ok (.iload_n 0, 1) := by decide +kernel
theorem d7_7 : decode method_3_code 7 = .ok (.iconst 1, 1) := by decide +kernel
theorem d7_8 : decode method_3_code 8 = .ok (.if_icmp .ne 5, 3) := by decide +kernel
theorem d7_11 : decode method_3_code 11 = .ok (.iconst 3, 1) := by decide +kernel
theorem d7_12 : decode method_3_code 12 = .ok (.ireturn, 1) := by decide +kernel
theorem d7_13 : decode method_3_code 13 = .ok (.iload_n 0, 1) := by decide +kernel
theorem d7_14 : decode method_3_code 14 = .ok (.iconst 2, 1) := by decide +kernel
theorem d7_15 : decode method_3_code 15 = .ok (.if_icmp .ne 5, 3) := by decide +kernel
theorem d7_18 : decode method_3_code 18 = .ok (.iconst 0, 1) := by decide +kernel
theorem d7_19 : decode method_3_code 19 = .ok (.ireturn, 1) := by decide +kernel
theorem d7_20 : decode method_3_code 20 = .ok (.iconst 1, 1) := by decide +kernel
theorem d7_21 : decode method_3_code 21 = .ok (.ireturn, 1) := by decide +kernel
def f7 (p1 : Int32) : Int32 := if p1 = (0 : Int32) then (2 : Int32) else if p1 = (1 : Int32) then (3 : Int32) else if p1 = (2 : Int32) then (0 : Int32) else (1 : Int32)
theorem ef_7 (m : MethodId) (x0 : Int32) : entryFrame m #[(.int x0)] 1 = mkF m 0 #[.val (.int x0)] [] := by first | (simp [entryFrame, mkF, argsToLocals, Value.category]; done) | rfl
def Q7 (Z : State) (p1 : Int32) (h0 : Heap) (n0 : Nat) (v : Option Value) (h : Heap) (L : List Loc) : Prop := v = some (.int (f7 p1)) ∧ Fr n0 L ∧ h = h0
set_option maxRecDepth 65536 in
set_option maxHeartbeats 40000000 in
theorem rm7 (l : Launch) (Z : State) (a0 : Array Value) (hw : ∀ d ∈ tables_1, d.before a0 Z = true) (ws : List Jvm.Cond) (p1 : Int32) (h0 : Heap) (n0 : Nat) (Z0 : n0 ≤ h0.size) :
    MetFree l (⟨"com/example/hindsight/hindsight/solvers/ResidualNetworkPushPinLaw", "mateOf", "(I)I"⟩ : MethodName) (head1 (Jvm.Cond.code (⟨"com/example/hindsight/hindsight/solvers/ResidualNetworkPushPinLaw", "mateOf", "(I)I"⟩ : MethodName) method_3_code 1 (some .int) :: ws) ({ frames := 0, cells := 0, slots := 0, locals := 0 } : Room)) (fun a U => a = #[(.int p1)] ∧ Z.Warmed39 U.vm ∧ U.heap = h0) (fun _ _ _ _ _ => True) (fun _ U o U' => ∃ v L, o = .returned v ∧ Q7 Z p1 h0 n0 v U'.heap L ∧ FrameEnd U o U' L ({ frames := 0, cells := 0, slots := 0, locals := 0 } : Room).cells ({ frames := 0, cells := 0, slots := 0, locals := 0 } : Room).slots) := by
  refine MetFree.of_bodySF (plainFor_of_name pn_1) hisR ?_
  intro p e s m args below meth c s₁ Bd hml0 hP hK
  obtain ⟨rfl, hZ, hh⟩ := hP
  have hx := Bd.exec
  have hby := Bd.bytes
  have hml : c.maxLocals = 1 := hml0
  have hown : s.vm.findClass "com/example/hindsight/hindsight/solvers/ResidualNetworkPushPinLaw" = some m.cls := findClass_of_methodNamed Bd.named
  have hnm := (name_of_methodNamed Bd.named Bd.method).1
  have X0 : Stand p l e ({ frames := 0, cells := 0, slots := 0, locals := 0 } : Room) s m #[(.int p1)] below meth c s₁ [] 0 0 := Stand.of_body Bd
  have e0 : s₁.heap = h0 := by rw [← hh, Bd.state]; rfl
  have N0 := Fr.nil n0
  have pre0 : ∀ t, Steps p.tables e below (s₁.setTop (mkF m 0 #[.val (.int p1)] [])) t → Steps p.tables e below (s₁.setTop (entryFrame m #[(.int p1)] 1)) t := fun t k => castTop (ef_7 m p1) k
  have pre1 : ∀ t, Steps p.tables e below (s₁.setTop (mkF m 1 #[.val (.int p1)] [(.int p1)])) t → Steps p.tables e below (s₁.setTop (entryFrame m #[(.int p1)] 1)) t := fun t k => pre0 t (by
    show Steps p.tables e below (s₁.setTop (mkF m 0 #[.val (.int p1)] [])) _
    refine XS.iloadN X0.here hx rfl (hb hby d7_0) rfl ?_
    exact k)
  by_cases hc2 : p1 = (0 : Int32)
  · obtain ⟨fs, hr, hrun, hended, hW, hsame⟩ := X0.leave (v := some (.int (2 : Int32))) (fun h => by rw [Bd.returns] at h; cases h)
    refine ⟨_, _, pre1 _ ?_, hrun, hended, _, _, rfl, ?_, ⟨_, rfl⟩, hW, hsame.mono (by decide) (by decide)⟩
    · show Steps p.tables e below (s₁.setTop (mkF m 1 #[.val (.int p1)] [(.int p1)])) _
      refine XS.ifNo X0.here hx rfl (hb hby d7_1) rfl ((if0 _ _).trans (teq hc2).2) ?_
      show Steps p.tables e below (s₁.setTop (mkF m 4 #[.val (.int p1)] [])) _
      refine XS.iconst X0.here hx rfl (hb hby d7_4) ?_
      show Steps p.tables e below (s₁.setTop (mkF m 5 #[.val (.int p1)] [(.int (2 : Int32))])) _
      exact retI X0 hx Bd.returns (hb hby d7_5) hr
    · show Q7 Z p1 h0 n0 _ s₁.heap _
      rw [e0]
      exact ⟨by rw [show (f7 p1) = (2 : Int32) from by first | (rw [f7, if_pos hc2]; done) | (simp only [f7, if_pos hc2]; done) | rfl], N0, rfl⟩
  · have pre4 : ∀ t, Steps p.tables e below (s₁.setTop (mkF m 8 #[.val (.int p1)] [(.int (1 : Int32)), (.int p1)])) t → Steps p.tables e below (s₁.setTop (entryFrame m #[(.int p1)] 1)) t := fun t k => pre1 t (by
      show Steps p.tables e below (s₁.setTop (mkF m 1 #[.val (.int p1)] [(.int p1)])) _
      refine XS.ifYes X0.here hx rfl (pc0 := 1) (pc' := 6) rfl (hb hby d7_1) rfl ((if0 _ _).trans (feq hc2).2) (by decide) (by decide) ?_
      show Steps p.tables e below (s₁.setTop (mkF m 6 #[.val (.int p1)] [])) _
      refine XS.iloadN X0.here hx rfl (hb hby d7_6) rfl ?_
      show Steps p.tables e below (s₁.setTop (mkF m 7 #[.val (.int p1)] [(.int p1)])) _
      refine XS.iconst X0.here hx rfl (hb hby d7_7) ?_
      exact k)
    by_cases hc5 : p1 = (1 : Int32)
    · obtain ⟨fs, hr, hrun, hended, hW, hsame⟩ := X0.leave (v := some (.int (3 : Int32))) (fun h => by rw [Bd.returns] at h; cases h)
      refine ⟨_, _, pre4 _ ?_, hrun, hended, _, _, rfl, ?_, ⟨_, rfl⟩, hW, hsame.mono (by decide) (by decide)⟩
      · show Steps p.tables e below (s₁.setTop (mkF m 8 #[.val (.int p1)] [(.int (1 : Int32)), (.int p1)])) _
        refine XS.icmpNo X0.here hx rfl (hb hby d7_8) rfl (teq hc5).2 ?_
        show Steps p.tables e below (s₁.setTop (mkF m 11 #[.val (.int p1)] [])) _
        refine XS.iconst X0.here hx rfl (hb hby d7_11) ?_
        show Steps p.tables e below (s₁.setTop (mkF m 12 #[.val (.int p1)] [(.int (3 : Int32))])) _
        exact retI X0 hx Bd.returns (hb hby d7_12) hr
      · show Q7 Z p1 h0 n0 _ s₁.heap _
        rw [e0]
        exact ⟨by rw [show (f7 p1) = (3 : Int32) from by first | (rw [f7, if_neg hc2, if_pos hc5]; done) | (simp only [f7, if_neg hc2, if_pos hc5]; done) | rfl], N0, rfl⟩
    · have pre7 : ∀ t, Steps p.tables e below (s₁.setTop (mkF m 15 #[.val (.int p1)] [(.int (2 : Int32)), (.int p1)])) t → Steps p.tables e below (s₁.setTop (entryFrame m #[(.int p1)] 1)) t := fun t k => pre4 t (by
        show Steps p.tables e below (s₁.setTop (mkF m 8 #[.val (.int p1)] [(.int (1 : Int32)), (.int p1)])) _
        refine XS.icmpYes X0.here hx rfl (pc0 := 8) (pc' := 13) rfl (hb hby d7_8) rfl (feq hc5).2 (by decide) (by decide) ?_
        show Steps p.tables e below (s₁.setTop (mkF m 13 #[.val (.int p1)] [])) _
        refine XS.iloadN X0.here hx rfl (hb hby d7_13) rfl ?_
        show Steps p.tables e below (s₁.setTop (mkF m 14 #[.val (.int p1)] [(.int p1)])) _
        refine XS.iconst X0.here hx rfl (hb hby d7_14) ?_
        exact k)
      by_cases hc8 : p1 = (2 : Int32)
      · obtain ⟨fs, hr, hrun, hended, hW, hsame⟩ := X0.leave (v := some (.int (0 : Int32))) (fun h => by rw [Bd.returns] at h; cases h)
        refine ⟨_, _, pre7 _ ?_, hrun, hended, _, _, rfl, ?_, ⟨_, rfl⟩, hW, hsame.mono (by decide) (by decide)⟩
        · show Steps p.tables e below (s₁.setTop (mkF m 15 #[.val (.int p1)] [(.int (2 : Int32)), (.int p1)])) _
          refine XS.icmpNo X0.here hx rfl (hb hby d7_15) rfl (teq hc8).2 ?_
          show Steps p.tables e below (s₁.setTop (mkF m 18 #[.val (.int p1)] [])) _
          refine XS.iconst X0.here hx rfl (hb hby d7_18) ?_
          show Steps p.tables e below (s₁.setTop (mkF m 19 #[.val (.int p1)] [(.int (0 : Int32))])) _
          exact retI X0 hx Bd.returns (hb hby d7_19) hr
        · show Q7 Z p1 h0 n0 _ s₁.heap _
          rw [e0]
          exact ⟨by rw [show (f7 p1) = (0 : Int32) from by first | (rw [f7, if_neg hc2, if_neg hc5, if_pos hc8]; done) | (simp only [f7, if_neg hc2, if_neg hc5, if_pos hc8]; done) | rfl], N0, rfl⟩
      · obtain ⟨fs, hr, hrun, hended, hW, hsame⟩ := X0.leave (v := some (.int (1 : Int32))) (fun h => by rw [Bd.returns] at h; cases h)
        refine ⟨_, _, pre7 _ ?_, hrun, hended, _, _, rfl, ?_, ⟨_, rfl⟩, hW, hsame.mono (by decide) (by decide)⟩
        · show Steps p.tables e below (s₁.setTop (mkF m 15 #[.val (.int p1)] [(.int (2 : Int32)), (.int p1)])) _
          refine XS.icmpYes X0.here hx rfl (pc0 := 15) (pc' := 20) rfl (hb hby d7_15) rfl (feq hc8).2 (by decide) (by decide) ?_
          show Steps p.tables e below (s₁.setTop (mkF m 20 #[.val (.int p1)] [])) _
          refine XS.iconst X0.here hx rfl (hb hby d7_20) ?_
          show Steps p.tables e below (s₁.setTop (mkF m 21 #[.val (.int p1)] [(.int (1 : Int32))])) _
          exact retI X0 hx Bd.returns (hb hby d7_21) hr
        · show Q7 Z p1 h0 n0 _ s₁.heap _
          rw [e0]
          exact ⟨by rw [show (f7 p1) = (1 : Int32) from by first | (rw [f7, if_neg hc2, if_neg hc5, if_neg hc8]; done) | (simp only [f7, if_neg hc2, if_neg hc5, if_neg hc8]; done) | rfl], N0, rfl⟩
theorem d6_0 : decode method_4_code 0 = .ok (.iconst 0, 1) := by decide +kernel
theorem d6_1 : decode method_4_code 1 = .ok (.istore_n 3, 1) := by decide +kernel
theorem d6_2 : decode method_4_code 2 = .ok (.iload_n 0, 1) := by decide +kernel
theorem d6_3 : decode method_4_code 3 = .ok (.iload_n 1, 1) := by decide +kernel
theorem d6_4 : decode method_4_code 4 = .ok (.if_icmp .ne 7, 3) := by decide +kernel
theorem d6_7 : decode method_4_code 7 = .ok (.iload_n 3, 1) := by decide +kernel
theorem d6_8 : decode method_4_code 8 = .ok (.iload_n 2, 1) := by decide +kernel
theorem d6_9 : decode method_4_code 9 = .ok (.isub, 1) := by decide +kernel
theorem d6_10 : decode method_4_code 10 = .ok (.istore_n 3, 1) := by decide +kernel
theorem d6_11 : decode method_4_code 11 = .ok (.iload_n 0, 1) := by decide +kernel
theorem d6_12 : decode method_4_code 12 = .ok (.iload_n 1, 1) := by decide +kernel
theorem d6_13 : decode method_4_code 13 = .ok (.invokestatic 7, 3) := by decide +kernel
theorem pd_0 : parseMethodDescriptor "(I)I" = some ⟨[.int], some .int⟩ := by decide +kernel
theorem d6_16 : decode method_4_code 16 = .ok (.if_icmp .ne 7, 3) := by decide +kernel
theorem d6_19 : decode method_4_code 19 = .ok (.iload_n 3, 1) := by decide +kernel
theorem d6_20 : decode method_4_code 20 = .ok (.iload_n 2, 1) := by decide +kernel
theorem d6_21 : decode method_4_code 21 = .ok (.iadd, 1) := by decide +kernel
theorem d6_22 : decode method_4_code 22 = .ok (.istore_n 3, 1) := by decide +kernel
theorem d6_23 : decode method_4_code 23 = .ok (.iload_n 3, 1) := by decide +kernel
theorem d6_24 : decode method_4_code 24 = .ok (.ireturn, 1) := by decide +kernel
def m6_2_0 (p1 : Int32) (p2 : Int32) (p3 : Int32) : Int32 := (if p1 = p2 then ((0 : Int32) - p3) else (0 : Int32))
def m6_6_0 (p1 : Int32) (p2 : Int32) (p3 : Int32) : Int32 := (if p1 = (f7 p2) then ((m6_2_0 p1 p2 p3) + p3) else (m6_2_0 p1 p2 p3))
def f6 (p1 : Int32) (p2 : Int32) (p3 : Int32) : Int32 := (m6_6_0 p1 p2 p3)
theorem ef_6 (m : MethodId) (x0 : Int32) (x1 : Int32) (x2 : Int32) : entryFrame m #[(.int x0), (.int x1), (.int x2)] 4 = mkF m 0 #[.val (.int x0), .val (.int x1), .val (.int x2), .unset] [] := by first | (simp [entryFrame, mkF, argsToLocals, Value.category]; done) | rfl
def Q6 (Z : State) (p1 : Int32) (p2 : Int32) (p3 : Int32) (h0 : Heap) (n0 : Nat) (v : Option Value) (h : Heap) (L : List Loc) : Prop := v = some (.int (f6 p1 p2 p3)) ∧ Fr n0 L ∧ h = h0
set_option maxRecDepth 65536 in
set_option maxHeartbeats 40000000 in
theorem rm6 (l : Launch) (Z : State) (a0 : Array Value) (hw : ∀ d ∈ tables_1, d.before a0 Z = true) (ws : List Jvm.Cond) (p1 : Int32) (p2 : Int32) (p3 : Int32) (h0 : Heap) (n0 : Nat) (Z0 : n0 ≤ h0.size) :
    MetFree l (⟨"com/example/hindsight/hindsight/solvers/ResidualNetworkPushPinLaw", "delta", "(III)I"⟩ : MethodName) (head1 (Jvm.Cond.code (⟨"com/example/hindsight/hindsight/solvers/ResidualNetworkPushPinLaw", "delta", "(III)I"⟩ : MethodName) method_4_code 4 (some .int) :: ws) ({ frames := 1, cells := 0, slots := 0, locals := 13 } : Room)) (fun a U => a = #[(.int p1), (.int p2), (.int p3)] ∧ Z.Warmed39 U.vm ∧ U.heap = h0) (fun _ _ _ _ _ => True) (fun _ U o U' => ∃ v L, o = .returned v ∧ Q6 Z p1 p2 p3 h0 n0 v U'.heap L ∧ FrameEnd U o U' L ({ frames := 1, cells := 0, slots := 0, locals := 13 } : Room).cells ({ frames := 1, cells := 0, slots := 0, locals := 13 } : Room).slots) := by
  refine MetFree.of_bodySF (plainFor_of_name pn_1) hisR ?_
  intro p e s m args below meth c s₁ Bd hml0 hP hK
  obtain ⟨rfl, hZ, hh⟩ := hP
  have hx := Bd.exec
  have hby := Bd.bytes
  have hml : c.maxLocals = 4 := hml0
  have hown : s.vm.findClass "com/example/hindsight/hindsight/solvers/ResidualNetworkPushPinLaw" = some m.cls := findClass_of_methodNamed Bd.named
  have hnm := (name_of_methodNamed Bd.named Bd.method).1
  have X0 : Stand p l e ({ frames := 1, cells := 0, slots := 0, locals := 13 } : Room) s m #[(.int p1), (.int p2), (.int p3)] below meth c s₁ [] 0 0 := Stand.of_body Bd
  have e0 : s₁.heap = h0 := by rw [← hh, Bd.state]; rfl
  have N0 := Fr.nil n0
  have pre0 : ∀ t, Steps p.tables e below (s₁.setTop (mkF m 0 #[.val (.int p1), .val (.int p2), .val (.int p3), .unset] [])) t → Steps p.tables e below (s₁.setTop (entryFrame m #[(.int p1), (.int p2), (.int p3)] 4)) t := fun t k => castTop (ef_6 m p1 p2 p3) k
  have pre1 : ∀ t, Steps p.tables e below (s₁.setTop (mkF m 4 #[.val (.int p1), .val (.int p2), .val (.int p3), .val (.int (0 : Int32))] [(.int p2), (.int p1)])) t → Steps p.tables e below (s₁.setTop (entryFrame m #[(.int p1), (.int p2), (.int p3)] 4)) t := fun t k => pre0 t (by
    show Steps p.tables e below (s₁.setTop (mkF m 0 #[.val (.int p1), .val (.int p2), .val (.int p3), .unset] [])) _
    refine XS.iconst X0.here hx rfl (hb hby d6_0) ?_
    show Steps p.tables e below (s₁.setTop (mkF m 1 #[.val (.int p1), .val (.int p2), .val (.int p3), .unset] [(.int (0 : Int32))])) _
    refine XS.istoreN X0.here hx rfl (hb hby d6_1) rfl (l' := #[.val (.int p1), .val (.int p2), .val (.int p3), .val (.int (0 : Int32))]) rfl ?_
    show Steps p.tables e below (s₁.setTop (mkF m 2 #[.val (.int p1), .val (.int p2), .val (.int p3), .val (.int (0 : Int32))] [])) _
    refine XS.iloadN X0.here hx rfl (hb hby d6_2) rfl ?_
    show Steps p.tables e below (s₁.setTop (mkF m 3 #[.val (.int p1), .val (.int p2), .val (.int p3), .val (.int (0 : Int32))] [(.int p1)])) _
    refine XS.iloadN X0.here hx rfl (hb hby d6_3) rfl ?_
    exact k)
  have pre2 : ∀ t, Steps p.tables e below (s₁.setTop (mkF m 11 #[.val (.int p1), .val (.int p2), .val (.int p3), .val (.int (m6_2_0 p1 p2 p3))] [])) t → Steps p.tables e below (s₁.setTop (entryFrame m #[(.int p1), (.int p2), (.int p3)] 4)) t := by
    intro t k
    by_cases hc3 : p1 = p2
    · rw [show (m6_2_0 p1 p2 p3) = ((0 : Int32) - p3) from by first | (rw [m6_2_0, if_pos hc3]; done) | (simp only [m6_2_0, if_pos hc3]; done) | rfl] at k
      refine pre1 t ?_
      show Steps p.tables e below (s₁.setTop (mkF m 4 #[.val (.int p1), .val (.int p2), .val (.int p3), .val (.int (0 : Int32))] [(.int p2), (.int p1)])) _
      refine XS.icmpNo X0.here hx rfl (hb hby d6_4) rfl (teq hc3).2 ?_
      show Steps p.tables e below (s₁.setTop (mkF m 7 #[.val (.int p1), .val (.int p2), .val (.int p3), .val (.int (0 : Int32))] [])) _
      refine XS.iloadN X0.here hx rfl (hb hby d6_7) rfl ?_
      show Steps p.tables e below (s₁.setTop (mkF m 8 #[.val (.int p1), .val (.int p2), .val (.int p3), .val (.int (0 : Int32))] [(.int (0 : Int32))])) _
      refine XS.iloadN X0.here hx rfl (hb hby d6_8) rfl ?_
      show Steps p.tables e below (s₁.setTop (mkF m 9 #[.val (.int p1), .val (.int p2), .val (.int p3), .val (.int (0 : Int32))] [(.int p3), (.int (0 : Int32))])) _
      refine XS.isub X0.here hx rfl (hb hby d6_9) rfl ?_
      show Steps p.tables e below (s₁.setTop (mkF m 10 #[.val (.int p1), .val (.int p2), .val (.int p3), .val (.int (0 : Int32))] [(.int ((0 : Int32) - p3))])) _
      refine XS.istoreN X0.here hx rfl (hb hby d6_10) rfl (l' := #[.val (.int p1), .val (.int p2), .val (.int p3), .val (.int ((0 : Int32) - p3))]) rfl ?_
      exact k
    · rw [show (m6_2_0 p1 p2 p3) = (0 : Int32) from by first | (rw [m6_2_0, if_neg hc3]; done) | (simp only [m6_2_0, if_neg hc3]; done) | rfl] at k
      refine pre1 t ?_
      show Steps p.tables e below (s₁.setTop (mkF m 4 #[.val (.int p1), .val (.int p2), .val (.int p3), .val (.int (0 : Int32))] [(.int p2), (.int p1)])) _
      refine XS.icmpYes X0.here hx rfl (pc0 := 4) (pc' := 11) rfl (hb hby d6_4) rfl (feq hc3).2 (by decide) (by decide) ?_
      exact k
  obtain ⟨_, _, ⟨T4, L4, k4, n4⟩, -, X4, ⟨Lc4, hQ4, l4, y4, z4⟩, st4⟩ := Jvm.LawKit.callS X0 hx (y := (⟨"com/example/hindsight/hindsight/solvers/ResidualNetworkPushPinLaw", "mateOf", "(I)I"⟩ : MethodName)) hown (mvT hZ (hw _ (List.mem_of_getElem? (i := 47) rfl))) (mvT hZ (hw _ (List.mem_of_getElem? (i := 48) rfl))) (mvT hZ (hw _ (List.mem_of_getElem? (i := 38) rfl))) (mvT hZ (hw _ (List.mem_of_getElem? (i := 49) rfl))) (by decide) (backOf (W := 1) (rm7 l Z a0 hw [] p2 h0 n0 Z0) hZ (hw _ (List.mem_of_getElem? (i := 49) rfl)) (hw _ (List.mem_of_getElem? (i := 38) rfl)) (by decide) (by decide)) (g := (mkF m 13 #[.val (.int p1), .val (.int p2), .val (.int p3), .val (.int (m6_2_0 p1 p2 p3))] [(.int p2), (.int p1)])) rfl (by rw [hml]; rfl) (argsL := [(.int p2)]) (rest := [(.int p1)]) (lenOf pd_0 rfl) rfl (by show 2 * 0 + _ ≤ _; exact Nat.le_of_eq rfl) (hb hby d6_13) (fun _ _ => ⟨rfl, e0, (by decide : 0 + 0 ≤ _), (by decide : 0 + 0 ≤ _)⟩)
  dsimp only [Pt.U, Pt.locs, Pt.cells, Pt.slots] at X4 l4 y4 z4 st4 hQ4
  subst l4 y4 z4
  obtain ⟨rfl, N4q, e4⟩ := hQ4
  have N4 := Fr.app N0 N4q
  have pre5 : ∀ t, Steps p.tables e below (T4.setTop (mkF m 16 #[.val (.int p1), .val (.int p2), .val (.int p3), .val (.int (m6_2_0 p1 p2 p3))] [(.int (f7 p2)), (.int p1)])) t → Steps p.tables e below (s₁.setTop (entryFrame m #[(.int p1), (.int p2), (.int p3)] 4)) t := fun t k => pre2 t (by
    show Steps p.tables e below (s₁.setTop (mkF m 11 #[.val (.int p1), .val (.int p2), .val (.int p3), .val (.int (m6_2_0 p1 p2 p3))] [])) _
    refine XS.iloadN X0.here hx rfl (hb hby d6_11) rfl ?_
    show Steps p.tables e below (s₁.setTop (mkF m 12 #[.val (.int p1), .val (.int p2), .val (.int p3), .val (.int (m6_2_0 p1 p2 p3))] [(.int p1)])) _
    refine XS.iloadN X0.here hx rfl (hb hby d6_12) rfl ?_
    show Steps p.tables e below (s₁.setTop (mkF m 13 #[.val (.int p1), .val (.int p2), .val (.int p3), .val (.int (m6_2_0 p1 p2 p3))] [(.int p2), (.int p1)])) _
    refine st4 _ ?_
    exact k)
  have pre6 : ∀ t, Steps p.tables e below (T4.setTop (mkF m 23 #[.val (.int p1), .val (.int p2), .val (.int p3), .val (.int (m6_6_0 p1 p2 p3))] [])) t → Steps p.tables e below (s₁.setTop (entryFrame m #[(.int p1), (.int p2), (.int p3)] 4)) t := by
    intro t k
    by_cases hc7 : p1 = (f7 p2)
    · rw [show (m6_6_0 p1 p2 p3) = ((m6_2_0 p1 p2 p3) + p3) from by first | (rw [m6_6_0, if_pos hc7]; done) | (simp only [m6_6_0, if_pos hc7]; done) | rfl] at k
      refine pre5 t ?_
      show Steps p.tables e below (T4.setTop (mkF m 16 #[.val (.int p1), .val (.int p2), .val (.int p3), .val (.int (m6_2_0 p1 p2 p3))] [(.int (f7 p2)), (.int p1)])) _
      refine XS.icmpNo X4.here hx rfl (hb hby d6_16) rfl (teq hc7).2 ?_
      show Steps p.tables e below (T4.setTop (mkF m 19 #[.val (.int p1), .val (.int p2), .val (.int p3), .val (.int (m6_2_0 p1 p2 p3))] [])) _
      refine XS.iloadN X4.here hx rfl (hb hby d6_19) rfl ?_
      show Steps p.tables e below (T4.setTop (mkF m 20 #[.val (.int p1), .val (.int p2), .val (.int p3), .val (.int (m6_2_0 p1 p2 p3))] [(.int (m6_2_0 p1 p2 p3))])) _
      refine XS.iloadN X4.here hx rfl (hb hby d6_20) rfl ?_
      show Steps p.tables e below (T4.setTop (mkF m 21 #[.val (.int p1), .val (.int p2), .val (.int p3), .val (.int (m6_2_0 p1 p2 p3))] [(.int p3), (.int (m6_2_0 p1 p2 p3))])) _
      refine XS.iadd X4.here hx rfl (hb hby d6_21) rfl ?_
      show Steps p.tables e below (T4.setTop (mkF m 22 #[.val (.int p1), .val (.int p2), .val (.int p3), .val (.int (m6_2_0 p1 p2 p3))] [(.int ((m6_2_0 p1 p2 p3) + p3))])) _
      refine XS.istoreN X4.here hx rfl (hb hby d6_22) rfl (l' := #[.val (.int p1), .val (.int p2), .val (.int p3), .val (.int ((m6_2_0 p1 p2 p3) + p3))]) rfl ?_
      exact k
    · rw [show (m6_6_0 p1 p2 p3) = (m6_2_0 p1 p2 p3) from by first | (rw [m6_6_0, if_neg hc7]; done) | (simp only [m6_6_0, if_neg hc7]; done) | rfl] at k
      refine pre5 t ?_
      show Steps p.tables e below (T4.setTop (mkF m 16 #[.val (.int p1), .val (.int p2), .val (.int p3), .val (.int (m6_2_0 p1 p2 p3))] [(.int (f7 p2)), (.int p1)])) _
      refine XS.icmpYes X4.here hx rfl (pc0 := 16) (pc' := 23) rfl (hb hby d6_16) rfl (feq hc7).2 (by decide) (by decide) ?_
      exact k
  obtain ⟨fs, hr, hrun, hended, hW, hsame⟩ := X4.leave (v := some (.int (m6_6_0 p1 p2 p3))) (fun h => by rw [Bd.returns] at h; cases h)
  refine ⟨_, _, pre6 _ ?_, hrun, hended, _, _, rfl, ?_, ⟨_, rfl⟩, hW, hsame.mono (by decide) (by decide)⟩
  · show Steps p.tables e below (T4.setTop (mkF m 23 #[.val (.int p1), .val (.int p2), .val (.int p3), .val (.int (m6_6_0 p1 p2 p3))] [])) _
    refine XS.iloadN X4.here hx rfl (hb hby d6_23) rfl ?_
    show Steps p.tables e below (T4.setTop (mkF m 24 #[.val (.int p1), .val (.int p2), .val (.int p3), .val (.int (m6_6_0 p1 p2 p3))] [(.int (m6_6_0 p1 p2 p3))])) _
    exact retI X4 hx Bd.returns (hb hby d6_24) hr
  · show Q6 Z p1 p2 p3 h0 n0 _ T4.heap _
    rw [e4]
    exact ⟨by rw [show (f6 p1 p2 p3) = (m6_6_0 p1 p2 p3) from by first | (rw [f6]; done) | (simp only [f6]; done) | rfl], N4, rfl⟩
theorem d4_0 : decode method_5_code 0 = .ok (.aload_n 0, 1) := by decide +kernel
theorem d4_1 : decode method_5_code 1 = .ok (.getfield 13, 3) := by decide +kernel
theorem d4_4 : decode method_5_code 4 = .ok (.arraylength, 1) := by decide +kernel
theorem d4_5 : decode method_5_code 5 = .ok (.iconst 4, 1) := by decide +kernel
theorem d4_6 : decode method_5_code 6 = .ok (.if_icmp .eq 5, 3) := by decide +kernel
theorem d4_11 : decode method_5_code 11 = .ok (.iconst 1, 1) := by decide +kernel
theorem d4_12 : decode method_5_code 12 = .ok (.istore 7, 2) := by decide +kernel
theorem d4_14 : decode method_5_code 14 = .ok (.iload 7, 2) := by decide +kernel
theorem d4_16 : decode method_5_code 16 = .ok (.ifCond .eq 39, 3) := by decide +kernel
theorem d4_19 : decode method_5_code 19 = .ok (.aload_n 0, 1) := by decide +kernel
theorem d4_20 : decode method_5_code 20 = .ok (.getfield 13, 3) := by decide +kernel
theorem d4_23 : decode method_5_code 23 = .ok (.iconst 0, 1) := by decide +kernel
theorem d4_24 : decode method_5_code 24 = .ok (.iaload, 1) := by decide +kernel
theorem d4_25 : decode method_5_code 25 = .ok (.iconst 0, 1) := by decide +kernel
theorem d4_26 : decode method_5_code 26 = .ok (.iload_n 1, 1) := by decide +kernel
theorem d4_27 : decode method_5_code 27 = .ok (.iload_n 2, 1) := by decide +kernel
theorem d4_28 : decode method_5_code 28 = .ok (.invokestatic 19, 3) := by decide +kernel
theorem pd_1 : parseMethodDescriptor "(III)I" = some ⟨[.int, .int, .int], some .int⟩ := by decide +kernel
theorem d4_31 : decode method_5_code 31 = .ok (.iconst 0, 1) := by decide +kernel
theorem d4_32 : decode method_5_code 32 = .ok (.iload_n 3, 1) := by decide +kernel
theorem d4_33 : decode method_5_code 33 = .ok (.iload 4, 2) := by decide +kernel
theorem d4_35 : decode method_5_code 35 = .ok (.invokestatic 23, 3) := by decide +kernel
theorem d4_38 : decode method_5_code 38 = .ok (.iadd, 1) := by decide +kernel
theorem d4_39 : decode method_5_code 39 = .ok (.iconst 0, 1) := by decide +kernel
theorem d4_40 : decode method_5_code 40 = .ok (.iload 5, 2) := by decide +kernel
theorem d4_42 : decode method_5_code 42 = .ok (.iload 6, 2) := by decide +kernel
theorem d4_44 : decode method_5_code 44 = .ok (.invokestatic 23, 3) := by decide +kernel
theorem d4_47 : decode method_5_code 47 = .ok (.iadd, 1) := by decide +kernel
theorem d4_48 : decode method_5_code 48 = .ok (.if_icmp .ne 7, 3) := by decide +kernel
theorem d4_51 : decode method_5_code 51 = .ok (.iconst 1, 1) := by decide +kernel
theorem d4_52 : decode method_5_code 52 = .ok (.goto 4, 3) := by decide +kernel
theorem d4_55 : decode method_5_code 55 = .ok (.iconst 0, 1) := by decide +kernel
theorem d4_56 : decode method_5_code 56 = .ok (.istore 7, 2) := by decide +kernel
theorem d4_58 : decode method_5_code 58 = .ok (.iload 7, 2) := by decide +kernel
theorem d4_60 : decode method_5_code 60 = .ok (.ifCond .eq 39, 3) := by decide +kernel
theorem d4_99 : decode method_5_code 99 = .ok (.iconst 0, 1) := by decide +kernel
theorem d4_63 : decode method_5_code 63 = .ok (.aload_n 0, 1) := by decide +kernel
theorem d4_64 : decode method_5_code 64 = .ok (.getfield 13, 3) := by decide +kernel
theorem d4_67 : decode method_5_code 67 = .ok (.iconst 1, 1) := by decide +kernel
theorem d4_68 : decode method_5_code 68 = .ok (.iaload, 1) := by decide +kernel
theorem d4_69 : decode method_5_code 69 = .ok (.iconst 1, 1) := by decide +kernel
theorem d4_70 : decode method_5_code 70 = .ok (.iload_n 1, 1) := by decide +kernel
theorem d4_71 : decode method_5_code 71 = .ok (.iload_n 2, 1) := by decide +kernel
theorem d4_72 : decode method_5_code 72 = .ok (.invokestatic 19, 3) := by decide +kernel
theorem d4_75 : decode method_5_code 75 = .ok (.iconst 1, 1) := by decide +kernel
theorem d4_76 : decode method_5_code 76 = .ok (.iload_n 3, 1) := by decide +kernel
theorem d4_77 : decode method_5_code 77 = .ok (.iload 4, 2) := by decide +kernel
theorem d4_79 : decode method_5_code 79 = .ok (.invokestatic 23, 3) := by decide +kernel
theorem d4_82 : decode method_5_code 82 = .ok (.iadd, 1) := by decide +kernel
theorem d4_83 : decode method_5_code 83 = .ok (.iconst 1, 1) := by decide +kernel
theorem d4_84 : decode method_5_code 84 = .ok (.iload 5, 2) := by decide +kernel
theorem d4_86 : decode method_5_code 86 = .ok (.iload 6, 2) := by decide +kernel
theorem d4_88 : decode method_5_code 88 = .ok (.invokestatic 23, 3) := by decide +kernel
theorem d4_91 : decode method_5_code 91 = .ok (.iadd, 1) := by decide +kernel
theorem d4_92 : decode method_5_code 92 = .ok (.if_icmp .ne 7, 3) := by decide +kernel
theorem d4_95 : decode method_5_code 95 = .ok (.iconst 1, 1) := by decide +kernel
theorem d4_96 : decode method_5_code 96 = .ok (.goto 4, 3) := by decide +kernel
theorem d4_100 : decode method_5_code 100 = .ok (.istore 7, 2) := by decide +kernel
theorem d4_102 : decode method_5_code 102 = .ok (.iload 7, 2) := by decide +kernel
theorem d4_104 : decode method_5_code 104 = .ok (.ifCond .eq 39, 3) := by decide +kernel
theorem d4_143 : decode method_5_code 143 = .ok (.iconst 0, 1) := by decide +kernel
theorem d4_107 : decode method_5_code 107 = .ok (.aload_n 0, 1) := by decide +kernel
theorem d4_108 : decode method_5_code 108 = .ok (.getfield 13, 3) := by decide +kernel
theorem d4_111 : decode method_5_code 111 = .ok (.iconst 2, 1) := by decide +kernel
theorem d4_112 : decode method_5_code 112 = .ok (.iaload, 1) := by decide +kernel
theorem d4_113 : decode method_5_code 113 = .ok (.iconst 2, 1) := by decide +kernel
theorem d4_114 : decode method_5_code 114 = .ok (.iload_n 1, 1) := by decide +kernel
theorem d4_115 : decode method_5_code 115 = .ok (.iload_n 2, 1) := by decide +kernel
theorem d4_116 : decode method_5_code 116 = .ok (.invokestatic 19, 3) := by decide +kernel
theorem d4_119 : decode method_5_code 119 = .ok (.iconst 2, 1) := by decide +kernel
theorem d4_120 : decode method_5_code 120 = .ok (.iload_n 3, 1) := by decide +kernel
theorem d4_121 : decode method_5_code 121 = .ok (.iload 4, 2) := by decide +kernel
theorem d4_123 : decode method_5_code 123 = .ok (.invokestatic 23, 3) := by decide +kernel
theorem d4_126 : decode method_5_code 126 = .ok (.iadd, 1) := by decide +kernel
theorem d4_127 : decode method_5_code 127 = .ok (.iconst 2, 1) := by decide +kernel
theorem d4_128 : decode method_5_code 128 = .ok (.iload 5, 2) := by decide +kernel
theorem d4_130 : decode method_5_code 130 = .ok (.iload 6, 2) := by decide +kernel
theorem d4_132 : decode method_5_code 132 = .ok (.invokestatic 23, 3) := by decide +kernel
theorem d4_135 : decode method_5_code 135 = .ok (.iadd, 1) := by decide +kernel
theorem d4_136 : decode method_5_code 136 = .ok (.if_icmp .ne 7, 3) := by decide +kernel
theorem d4_139 : decode method_5_code 139 = .ok (.iconst 1, 1) := by decide +kernel
theorem d4_140 : decode method_5_code 140 = .ok (.goto 4, 3) := by decide +kernel
theorem d4_144 : decode method_5_code 144 = .ok (.istore 7, 2) := by decide +kernel
theorem d4_146 : decode method_5_code 146 = .ok (.iload 7, 2) := by decide +kernel
theorem d4_148 : decode method_5_code 148 = .ok (.ifCond .eq 39, 3) := by decide +kernel
theorem d4_187 : decode method_5_code 187 = .ok (.iconst 0, 1) := by decide +kernel
theorem d4_151 : decode method_5_code 151 = .ok (.aload_n 0, 1) := by decide +kernel
theorem d4_152 : decode method_5_code 152 = .ok (.getfield 13, 3) := by decide +kernel
theorem d4_155 : decode method_5_code 155 = .ok (.iconst 3, 1) := by decide +kernel
theorem d4_156 : decode method_5_code 156 = .ok (.iaload, 1) := by decide +kernel
theorem d4_157 : decode method_5_code 157 = .ok (.iconst 3, 1) := by decide +kernel
theorem d4_158 : decode method_5_code 158 = .ok (.iload_n 1, 1) := by decide +kernel
theorem d4_159 : decode method_5_code 159 = .ok (.iload_n 2, 1) := by decide +kernel
theorem d4_160 : decode method_5_code 160 = .ok (.invokestatic 19, 3) := by decide +kernel
theorem d4_163 : decode method_5_code 163 = .ok (.iconst 3, 1) := by decide +kernel
theorem d4_164 : decode method_5_code 164 = .ok (.iload_n 3, 1) := by decide +kernel
theorem d4_165 : decode method_5_code 165 = .ok (.iload 4, 2) := by decide +kernel
theorem d4_167 : decode method_5_code 167 = .ok (.invokestatic 23, 3) := by decide +kernel
theorem d4_170 : decode method_5_code 170 = .ok (.iadd, 1) := by decide +kernel
theorem d4_171 : decode method_5_code 171 = .ok (.iconst 3, 1) := by decide +kernel
theorem d4_172 : decode method_5_code 172 = .ok (.iload 5, 2) := by decide +kernel
theorem d4_174 : decode method_5_code 174 = .ok (.iload 6, 2) := by decide +kernel
theorem d4_176 : decode method_5_code 176 = .ok (.invokestatic 23, 3) := by decide +kernel
theorem d4_179 : decode method_5_code 179 = .ok (.iadd, 1) := by decide +kernel
theorem d4_180 : decode method_5_code 180 = .ok (.if_icmp .ne 7, 3) := by decide +kernel
theorem d4_183 : decode method_5_code 183 = .ok (.iconst 1, 1) := by decide +kernel
theorem d4_184 : decode method_5_code 184 = .ok (.goto 4, 3) := by decide +kernel
theorem d4_188 : decode method_5_code 188 = .ok (.istore 7, 2) := by decide +kernel
theorem d4_190 : decode method_5_code 190 = .ok (.iload 7, 2) := by decide +kernel
theorem d4_192 : decode method_5_code 192 = .ok (.ireturn, 1) := by decide +kernel
def m4_9_0 (p2 : Int32) (p3 : Int32) (p4 : Int32) (p5 : Int32) (p6 : Int32) (p7 : Int32) (x0 : Int32) : Int32 := (if x0 = (((f5 (0 : Int32) p2 p3) + (f6 (0 : Int32) p4 p5)) + (f6 (0 : Int32) p6 p7)) then (1 : Int32) else (0 : Int32))
def m4_12_0 (p2 : Int32) (p3 : Int32) (p4 : Int32) (p5 : Int32) (p6 : Int32) (p7 : Int32) (x0 : Int32) (x1 : Int32) : Int32 := (if (m4_9_0 p2 p3 p4 p5 p6 p7 x0) = (0 : Int32) then (0 : Int32) else (if x1 = (((f5 (1 : Int32) p2 p3) + (f6 (1 : Int32) p4 p5)) + (f6 (1 : Int32) p6 p7)) then (1 : Int32) else (0 : Int32)))
def m4_22_0 (p2 : Int32) (p3 : Int32) (p4 : Int32) (p5 : Int32) (p6 : Int32) (p7 : Int32) (x0 : Int32) (x1 : Int32) (x2 : Int32) : Int32 := (if (m4_12_0 p2 p3 p4 p5 p6 p7 x0 x1) = (0 : Int32) then (0 : Int32) else (if x2 = (((f5 (2 : Int32) p2 p3) + (f6 (2 : Int32) p4 p5)) + (f6 (2 : Int32) p6 p7)) then (1 : Int32) else (0 : Int32)))
def m4_32_0 (p2 : Int32) (p3 : Int32) (p4 : Int32) (p5 : Int32) (p6 : Int32) (p7 : Int32) (x0 : Int32) (x1 : Int32) (x2 : Int32) (x3 : Int32) : Int32 := (if (m4_22_0 p2 p3 p4 p5 p6 p7 x0 x1 x2) = (0 : Int32) then (0 : Int32) else (if x3 = (((f5 (3 : Int32) p2 p3) + (f6 (3 : Int32) p4 p5)) + (f6 (3 : Int32) p6 p7)) then (1 : Int32) else (0 : Int32)))
def f4 (p2 : Int32) (p3 : Int32) (p4 : Int32) (p5 : Int32) (p6 : Int32) (p7 : Int32) (x0 : Int32) (x1 : Int32) (x2 : Int32) (x3 : Int32) : Int32 := (nar .boolean (m4_32_0 p2 p3 p4 p5 p6 p7 x0 x1 x2 x3))
theorem ef_4 (m : MethodId) (x0 : Addr) (x1 : Int32) (x2 : Int32) (x3 : Int32) (x4 : Int32) (x5 : Int32) (x6 : Int32) : entryFrame m #[(.ref x0), (.int x1), (.int x2), (.int x3), (.int x4), (.int x5), (.int x6)] 8 = mkF m 0 #[.val (.ref x0), .val (.int x1), .val (.int x2), .val (.int x3), .val (.int x4), .val (.int x5), .val (.int x6), .unset] [] := by first | (simp [entryFrame, mkF, argsToLocals, Value.category]; done) | rfl
def Q4 (Z : State) (a1 : Addr) (p2 : Int32) (p3 : Int32) (p4 : Int32) (p5 : Int32) (p6 : Int32) (p7 : Int32) (r : Addr) (x0 : Int32) (x1 : Int32) (x2 : Int32) (x3 : Int32) (h0 : Heap) (n0 : Nat) (v : Option Value) (h : Heap) (L : List Loc) : Prop := v = some (.int (f4 p2 p3 p4 p5 p6 p7 x0 x1 x2 x3)) ∧ Fr n0 L ∧ h = h0
set_option maxRecDepth 65536 in
set_option maxHeartbeats 40000000 in
theorem rm4 (l : Launch) (Z : State) (a0 : Array Value) (hw : ∀ d ∈ tables_1, d.before a0 Z = true) (ws : List Jvm.Cond) (a1 : Addr) (p2 : Int32) (p3 : Int32) (p4 : Int32) (p5 : Int32) (p6 : Int32) (p7 : Int32) (r : Addr) (x0 : Int32) (x1 : Int32) (x2 : Int32) (x3 : Int32) (h0 : Heap) (n0 : Nat) (Z0 : n0 ≤ h0.size) (F_a1_residual : Fld Z h0 a1 "com/example/hindsight/hindsight/solvers/ResidualNetwork" "residual" "[I" (.ref r)) (V_r : AV Z h0 r .int (4 : Int32) [(.int x0), (.int x1), (.int x2), (.int x3)]) :
    MetFree l (⟨"com/example/hindsight/hindsight/solvers/ResidualNetworkPushPinLaw", "matches", "(Lcom/example/hindsight/hindsight/solvers/ResidualNetwork;IIIIII)Z"⟩ : MethodName) (head1 (Jvm.Cond.code (⟨"com/example/hindsight/hindsight/solvers/ResidualNetworkPushPinLaw", "matches", "(Lcom/example/hindsight/hindsight/solvers/ResidualNetwork;IIIIII)Z"⟩ : MethodName) method_5_code 8 (some .boolean) :: ws) ({ frames := 2, cells := 0, slots := 0, locals := 30 } : Room)) (fun a U => a = #[(.ref a1), (.int p2), (.int p3), (.int p4), (.int p5), (.int p6), (.int p7)] ∧ Z.Warmed39 U.vm ∧ U.heap = h0) (fun _ _ _ _ _ => True) (fun _ U o U' => ∃ v L, o = .returned v ∧ Q4 Z a1 p2 p3 p4 p5 p6 p7 r x0 x1 x2 x3 h0 n0 v U'.heap L ∧ FrameEnd U o U' L ({ frames := 2, cells := 0, slots := 0, locals := 30 } : Room).cells ({ frames := 2, cells := 0, slots := 0, locals := 30 } : Room).slots) := by
  refine MetFree.of_bodySF (plainFor_of_name pn_1) hisR ?_
  intro p e s m args below meth c s₁ Bd hml0 hP hK
  obtain ⟨rfl, hZ, hh⟩ := hP
  have hx := Bd.exec
  have hby := Bd.bytes
  have hml : c.maxLocals = 8 := hml0
  have hown : s.vm.findClass "com/example/hindsight/hindsight/solvers/ResidualNetworkPushPinLaw" = some m.cls := findClass_of_methodNamed Bd.named
  have hnm := (name_of_methodNamed Bd.named Bd.method).1
  have X0 : Stand p l e ({ frames := 2, cells := 0, slots := 0, locals := 30 } : Room) s m #[(.ref a1), (.int p2), (.int p3), (.int p4), (.int p5), (.int p6), (.int p7)] below meth c s₁ [] 0 0 := Stand.of_body Bd
  have e0 : s₁.heap = h0 := by rw [← hh, Bd.state]; rfl
  have N0 := Fr.nil n0
  have pre0 : ∀ t, Steps p.tables e below (s₁.setTop (mkF m 0 #[.val (.ref a1), .val (.int p2), .val (.int p3), .val (.int p4), .val (.int p5), .val (.int p6), .val (.int p7), .unset] [])) t → Steps p.tables e below (s₁.setTop (entryFrame m #[(.ref a1), (.int p2), (.int p3), (.int p4), (.int p5), (.int p6), (.int p7)] 8)) t := fun t k => castTop (ef_4 m a1 p2 p3 p4 p5 p6 p7) k
  obtain ⟨T1, X1, e1, st1⟩ := getF X0 hx hZ hown (host := "") (Or.inl (hw _ (List.mem_of_getElem? (i := 40) rfl))) Via.refl e0 F_a1_residual (g := (mkF m 1 #[.val (.ref a1), .val (.int p2), .val (.int p3), .val (.int p4), .val (.int p5), .val (.int p6), .val (.int p7), .unset] [(.ref a1)])) rfl rfl (hb hby d4_1)
  obtain ⟨cl2, A2, S2, Nl2, M2⟩ := id V_r
  obtain ⟨T3, X3, e3, st3⟩ := getF X1 hx hZ hown (host := "") (Or.inl (hw _ (List.mem_of_getElem? (i := 40) rfl))) Via.refl e1 F_a1_residual (g := (mkF m 20 #[.val (.ref a1), .val (.int p2), .val (.int p3), .val (.int p4), .val (.int p5), .val (.int p6), .val (.int p7), .val (.int (1 : Int32))] [(.ref a1)])) rfl rfl (hb hby d4_20)
  obtain ⟨cl4, A4, S4, Nl4, M4⟩ := id V_r
  have hin4 : ¬ ((0 : Int32) < 0 ∨ cl4.slots.size ≤ ((0 : Int32)).toNatClampNeg) := AV.inb S4 Nl4 ⟨by decide, by decide⟩
  have hat4 : cl4.slots[((0 : Int32)).toNatClampNeg]? = some (.int x0) := AV.at S4 rfl
  obtain ⟨_, _, ⟨T5, L5, k5, n5⟩, -, X5, ⟨Lc5, hQ5, l5, y5, z5⟩, st5⟩ := Jvm.LawKit.callS X3 hx (y := (⟨"com/example/hindsight/hindsight/solvers/ResidualNetworkPushPinLaw", "initial", "(III)I"⟩ : MethodName)) hown (mvT hZ (hw _ (List.mem_of_getElem? (i := 41) rfl))) (mvT hZ (hw _ (List.mem_of_getElem? (i := 42) rfl))) (mvT hZ (hw _ (List.mem_of_getElem? (i := 38) rfl))) (mvT hZ (hw _ (List.mem_of_getElem? (i := 43) rfl))) (by decide) (backOf (W := 1) (rm5 l Z a0 hw [] (0 : Int32) p2 p3 h0 n0 Z0) hZ (hw _ (List.mem_of_getElem? (i := 43) rfl)) (hw _ (List.mem_of_getElem? (i := 38) rfl)) (by decide) (by decide)) (g := (mkF m 28 #[.val (.ref a1), .val (.int p2), .val (.int p3), .val (.int p4), .val (.int p5), .val (.int p6), .val (.int p7), .val (.int (1 : Int32))] [(.int p3), (.int p2), (.int (0 : Int32)), (.int x0)])) rfl (by rw [hml]; rfl) (argsL := [(.int (0 : Int32)), (.int p2), (.int p3)]) (rest := [(.int x0)]) (lenOf pd_1 rfl) rfl (by show 2 * 0 + _ ≤ _; exact Nat.le_of_eq rfl) (hb hby d4_28) (fun _ _ => ⟨rfl, e3, (by decide : 0 + 0 ≤ _), (by decide : 0 + 0 ≤ _)⟩)
  dsimp only [Pt.U, Pt.locs, Pt.cells, Pt.slots] at X5 l5 y5 z5 st5 hQ5
  subst l5 y5 z5
  obtain ⟨rfl, N5q, e5⟩ := hQ5
  have N5 := Fr.app N0 N5q
  obtain ⟨_, _, ⟨T6, L6, k6, n6⟩, -, X6, ⟨Lc6, hQ6, l6, y6, z6⟩, st6⟩ := Jvm.LawKit.callS X5 hx (y := (⟨"com/example/hindsight/hindsight/solvers/ResidualNetworkPushPinLaw", "delta", "(III)I"⟩ : MethodName)) hown (mvT hZ (hw _ (List.mem_of_getElem? (i := 44) rfl))) (mvT hZ (hw _ (List.mem_of_getElem? (i := 45) rfl))) (mvT hZ (hw _ (List.mem_of_getElem? (i := 38) rfl))) (mvT hZ (hw _ (List.mem_of_getElem? (i := 46) rfl))) (by decide) (backOf (W := 2) (rm6 l Z a0 hw [] (0 : Int32) p4 p5 h0 n0 Z0) hZ (hw _ (List.mem_of_getElem? (i := 46) rfl)) (hw _ (List.mem_of_getElem? (i := 38) rfl)) (by decide) (by decide)) (g := (mkF m 35 #[.val (.ref a1), .val (.int p2), .val (.int p3), .val (.int p4), .val (.int p5), .val (.int p6), .val (.int p7), .val (.int (1 : Int32))] [(.int p5), (.int p4), (.int (0 : Int32)), (.int (f5 (0 : Int32) p2 p3)), (.int x0)])) rfl (by rw [hml]; rfl) (argsL := [(.int (0 : Int32)), (.int p4), (.int p5)]) (rest := [(.int (f5 (0 : Int32) p2 p3)), (.int x0)]) (lenOf pd_1 rfl) rfl (by show 2 * 0 + _ ≤ _; exact Nat.le_of_eq rfl) (hb hby d4_35) (fun _ _ => ⟨rfl, e5, (by decide : 0 + 0 ≤ _), (by decide : 0 + 0 ≤ _)⟩)
  dsimp only [Pt.U, Pt.locs, Pt.cells, Pt.slots] at X6 l6 y6 z6 st6 hQ6
  subst l6 y6 z6
  obtain ⟨rfl, N6q, e6⟩ := hQ6
  have N6 := Fr.app N5 N6q
  obtain ⟨_, _, ⟨T7, L7, k7, n7⟩, -, X7, ⟨Lc7, hQ7, l7, y7, z7⟩, st7⟩ := Jvm.LawKit.callS X6 hx (y := (⟨"com/example/hindsight/hindsight/solvers/ResidualNetworkPushPinLaw", "delta", "(III)I"⟩ : MethodName)) hown (mvT hZ (hw _ (List.mem_of_getElem? (i := 44) rfl))) (mvT hZ (hw _ (List.mem_of_getElem? (i := 45) rfl))) (mvT hZ (hw _ (List.mem_of_getElem? (i := 38) rfl))) (mvT hZ (hw _ (List.mem_of_getElem? (i := 46) rfl))) (by decide) (backOf (W := 2) (rm6 l Z a0 hw [] (0 : Int32) p6 p7 h0 n0 Z0) hZ (hw _ (List.mem_of_getElem? (i := 46) rfl)) (hw _ (List.mem_of_getElem? (i := 38) rfl)) (by decide) (by decide)) (g := (mkF m 44 #[.val (.ref a1), .val (.int p2), .val (.int p3), .val (.int p4), .val (.int p5), .val (.int p6), .val (.int p7), .val (.int (1 : Int32))] [(.int p7), (.int p6), (.int (0 : Int32)), (.int ((f5 (0 : Int32) p2 p3) + (f6 (0 : Int32) p4 p5))), (.int x0)])) rfl (by rw [hml]; rfl) (argsL := [(.int (0 : Int32)), (.int p6), (.int p7)]) (rest := [(.int ((f5 (0 : Int32) p2 p3) + (f6 (0 : Int32) p4 p5))), (.int x0)]) (lenOf pd_1 rfl) rfl (by show 2 * 0 + _ ≤ _; exact Nat.le_of_eq rfl) (hb hby d4_44) (fun _ _ => ⟨rfl, e6, (by decide : 0 + 0 ≤ _), (by decide : 0 + 0 ≤ _)⟩)
  dsimp only [Pt.U, Pt.locs, Pt.cells, Pt.slots] at X7 l7 y7 z7 st7 hQ7
  subst l7 y7 z7
  obtain ⟨rfl, N7q, e7⟩ := hQ7
  have N7 := Fr.app N6 N7q
  have pre8 : ∀ t, Steps p.tables e below (T7.setTop (mkF m 48 #[.val (.ref a1), .val (.int p2), .val (.int p3), .val (.int p4), .val (.int p5), .val (.int p6), .val (.int p7), .val (.int (1 : Int32))] [(.int (((f5 (0 : Int32) p2 p3) + (f6 (0 : Int32) p4 p5)) + (f6 (0 : Int32) p6 p7))), (.int x0)])) t → Steps p.tables e below (s₁.setTop (entryFrame m #[(.ref a1), (.int p2), (.int p3), (.int p4), (.int p5), (.int p6), (.int p7)] 8)) t := fun t k => pre0 t (by
    show Steps p.tables e below (s₁.setTop (mkF m 0 #[.val (.ref a1), .val (.int p2), .val (.int p3), .val (.int p4), .val (.int p5), .val (.int p6), .val (.int p7), .unset] [])) _
    refine XS.aloadN X0.here hx rfl (hb hby d4_0) rfl rfl ?_
    show Steps p.tables e below (s₁.setTop (mkF m 1 #[.val (.ref a1), .val (.int p2), .val (.int p3), .val (.int p4), .val (.int p5), .val (.int p6), .val (.int p7), .unset] [(.ref a1)])) _
    refine st1 _ ?_
    show Steps p.tables e below (T1.setTop (mkF m 4 #[.val (.ref a1), .val (.int p2), .val (.int p3), .val (.int p4), .val (.int p5), .val (.int p6), .val (.int p7), .unset] [(.ref r)])) _
    refine X1.arraylength hx (by rw [e1]; exact A2.1) (State.isArrayOf_alike hZ.alike A2.2.1) (g := (mkF m 4 #[.val (.ref a1), .val (.int p2), .val (.int p3), .val (.int p4), .val (.int p5), .val (.int p6), .val (.int p7), .unset] [(.ref r)])) rfl rfl (hb hby d4_4) _ ?_
    rw [AV.len S2 Nl2 M2]
    show Steps p.tables e below (T1.setTop (mkF m 5 #[.val (.ref a1), .val (.int p2), .val (.int p3), .val (.int p4), .val (.int p5), .val (.int p6), .val (.int p7), .unset] [(.int (4 : Int32))])) _
    refine XS.iconst X1.here hx rfl (hb hby d4_5) ?_
    show Steps p.tables e below (T1.setTop (mkF m 6 #[.val (.ref a1), .val (.int p2), .val (.int p3), .val (.int p4), .val (.int p5), .val (.int p6), .val (.int p7), .unset] [(.int (4 : Int32)), (.int (4 : Int32))])) _
    refine XS.icmpYes X1.here hx rfl (pc0 := 6) (pc' := 11) rfl (hb hby d4_6) rfl (teq (rfl : (4 : Int32) = (4 : Int32))).1 (by decide) (by decide) ?_
    show Steps p.tables e below (T1.setTop (mkF m 11 #[.val (.ref a1), .val (.int p2), .val (.int p3), .val (.int p4), .val (.int p5), .val (.int p6), .val (.int p7), .unset] [])) _
    refine XS.iconst X1.here hx rfl (hb hby d4_11) ?_
    show Steps p.tables e below (T1.setTop (mkF m 12 #[.val (.ref a1), .val (.int p2), .val (.int p3), .val (.int p4), .val (.int p5), .val (.int p6), .val (.int p7), .unset] [(.int (1 : Int32))])) _
    refine XS.istore X1.here hx rfl (hb hby d4_12) rfl (l' := #[.val (.ref a1), .val (.int p2), .val (.int p3), .val (.int p4), .val (.int p5), .val (.int p6), .val (.int p7), .val (.int (1 : Int32))]) rfl ?_
    show Steps p.tables e below (T1.setTop (mkF m 14 #[.val (.ref a1), .val (.int p2), .val (.int p3), .val (.int p4), .val (.int p5), .val (.int p6), .val (.int p7), .val (.int (1 : Int32))] [])) _
    refine XS.iload X1.here hx rfl (hb hby d4_14) rfl ?_
    show Steps p.tables e below (T1.setTop (mkF m 16 #[.val (.ref a1), .val (.int p2), .val (.int p3), .val (.int p4), .val (.int p5), .val (.int p6), .val (.int p7), .val (.int (1 : Int32))] [(.int (1 : Int32))])) _
    refine XS.ifNo X1.here hx rfl (hb hby d4_16) rfl ((if0 _ _).trans (feq (by decide : ¬ ((1 : Int32) = (0 : Int32)))).1) ?_
    show Steps p.tables e below (T1.setTop (mkF m 19 #[.val (.ref a1), .val (.int p2), .val (.int p3), .val (.int p4), .val (.int p5), .val (.int p6), .val (.int p7), .val (.int (1 : Int32))] [])) _
    refine XS.aloadN X1.here hx rfl (hb hby d4_19) rfl rfl ?_
    show Steps p.tables e below (T1.setTop (mkF m 20 #[.val (.ref a1), .val (.int p2), .val (.int p3), .val (.int p4), .val (.int p5), .val (.int p6), .val (.int p7), .val (.int (1 : Int32))] [(.ref a1)])) _
    refine st3 _ ?_
    show Steps p.tables e below (T3.setTop (mkF m 23 #[.val (.ref a1), .val (.int p2), .val (.int p3), .val (.int p4), .val (.int p5), .val (.int p6), .val (.int p7), .val (.int (1 : Int32))] [(.ref r)])) _
    refine XS.iconst X3.here hx rfl (hb hby d4_23) ?_
    show Steps p.tables e below (T3.setTop (mkF m 24 #[.val (.ref a1), .val (.int p2), .val (.int p3), .val (.int p4), .val (.int p5), .val (.int p6), .val (.int p7), .val (.int (1 : Int32))] [(.int (0 : Int32)), (.ref r)])) _
    refine X3.iaload hx (j := (0 : Int32)) (v := (.int x0)) (by rw [e3]; exact A4.1) (State.isArrayOf_alike hZ.alike A4.2.1) A4.2.2 hin4 hat4 (g := (mkF m 24 #[.val (.ref a1), .val (.int p2), .val (.int p3), .val (.int p4), .val (.int p5), .val (.int p6), .val (.int p7), .val (.int (1 : Int32))] [(.int (0 : Int32)), (.ref r)])) rfl rfl (hb hby d4_24) _ ?_
    show Steps p.tables e below (T3.setTop (mkF m 25 #[.val (.ref a1), .val (.int p2), .val (.int p3), .val (.int p4), .val (.int p5), .val (.int p6), .val (.int p7), .val (.int (1 : Int32))] [(.int x0)])) _
    refine XS.iconst X3.here hx rfl (hb hby d4_25) ?_
    show Steps p.tables e below (T3.setTop (mkF m 26 #[.val (.ref a1), .val (.int p2), .val (.int p3), .val (.int p4), .val (.int p5), .val (.int p6), .val (.int p7), .val (.int (1 : Int32))] [(.int (0 : Int32)), (.int x0)])) _
    refine XS.iloadN X3.here hx rfl (hb hby d4_26) rfl ?_
    show Steps p.tables e below (T3.setTop (mkF m 27 #[.val (.ref a1), .val (.int p2), .val (.int p3), .val (.int p4), .val (.int p5), .val (.int p6), .val (.int p7), .val (.int (1 : Int32))] [(.int p2), (.int (0 : Int32)), (.int x0)])) _
    refine XS.iloadN X3.here hx rfl (hb hby d4_27) rfl ?_
    show Steps p.tables e below (T3.setTop (mkF m 28 #[.val (.ref a1), .val (.int p2), .val (.int p3), .val (.int p4), .val (.int p5), .val (.int p6), .val (.int p7), .val (.int (1 : Int32))] [(.int p3), (.int p2), (.int (0 : Int32)), (.int x0)])) _
    refine st5 _ ?_
    show Steps p.tables e below (T5.setTop (mkF m 31 #[.val (.ref a1), .val (.int p2), .val (.int p3), .val (.int p4), .val (.int p5), .val (.int p6), .val (.int p7), .val (.int (1 : Int32))] [(.int (f5 (0 : Int32) p2 p3)), (.int x0)])) _
    refine XS.iconst X5.here hx rfl (hb hby d4_31) ?_
    show Steps p.tables e below (T5.setTop (mkF m 32 #[.val (.ref a1), .val (.int p2), .val (.int p3), .val (.int p4), .val (.int p5), .val (.int p6), .val (.int p7), .val (.int (1 : Int32))] [(.int (0 : Int32)), (.int (f5 (0 : Int32) p2 p3)), (.int x0)])) _
    refine XS.iloadN X5.here hx rfl (hb hby d4_32) rfl ?_
    show Steps p.tables e below (T5.setTop (mkF m 33 #[.val (.ref a1), .val (.int p2), .val (.int p3), .val (.int p4), .val (.int p5), .val (.int p6), .val (.int p7), .val (.int (1 : Int32))] [(.int p4), (.int (0 : Int32)), (.int (f5 (0 : Int32) p2 p3)), (.int x0)])) _
    refine XS.iload X5.here hx rfl (hb hby d4_33) rfl ?_
    show Steps p.tables e below (T5.setTop (mkF m 35 #[.val (.ref a1), .val (.int p2), .val (.int p3), .val (.int p4), .val (.int p5), .val (.int p6), .val (.int p7), .val (.int (1 : Int32))] [(.int p5), (.int p4), (.int (0 : Int32)), (.int (f5 (0 : Int32) p2 p3)), (.int x0)])) _
    refine st6 _ ?_
    show Steps p.tables e below (T6.setTop (mkF m 38 #[.val (.ref a1), .val (.int p2), .val (.int p3), .val (.int p4), .val (.int p5), .val (.int p6), .val (.int p7), .val (.int (1 : Int32))] [(.int (f6 (0 : Int32) p4 p5)), (.int (f5 (0 : Int32) p2 p3)), (.int x0)])) _
    refine XS.iadd X6.here hx rfl (hb hby d4_38) rfl ?_
    show Steps p.tables e below (T6.setTop (mkF m 39 #[.val (.ref a1), .val (.int p2), .val (.int p3), .val (.int p4), .val (.int p5), .val (.int p6), .val (.int p7), .val (.int (1 : Int32))] [(.int ((f5 (0 : Int32) p2 p3) + (f6 (0 : Int32) p4 p5))), (.int x0)])) _
    refine XS.iconst X6.here hx rfl (hb hby d4_39) ?_
    show Steps p.tables e below (T6.setTop (mkF m 40 #[.val (.ref a1), .val (.int p2), .val (.int p3), .val (.int p4), .val (.int p5), .val (.int p6), .val (.int p7), .val (.int (1 : Int32))] [(.int (0 : Int32)), (.int ((f5 (0 : Int32) p2 p3) + (f6 (0 : Int32) p4 p5))), (.int x0)])) _
    refine XS.iload X6.here hx rfl (hb hby d4_40) rfl ?_
    show Steps p.tables e below (T6.setTop (mkF m 42 #[.val (.ref a1), .val (.int p2), .val (.int p3), .val (.int p4), .val (.int p5), .val (.int p6), .val (.int p7), .val (.int (1 : Int32))] [(.int p6), (.int (0 : Int32)), (.int ((f5 (0 : Int32) p2 p3) + (f6 (0 : Int32) p4 p5))), (.int x0)])) _
    refine XS.iload X6.here hx rfl (hb hby d4_42) rfl ?_
    show Steps p.tables e below (T6.setTop (mkF m 44 #[.val (.ref a1), .val (.int p2), .val (.int p3), .val (.int p4), .val (.int p5), .val (.int p6), .val (.int p7), .val (.int (1 : Int32))] [(.int p7), (.int p6), (.int (0 : Int32)), (.int ((f5 (0 : Int32) p2 p3) + (f6 (0 : Int32) p4 p5))), (.int x0)])) _
    refine st7 _ ?_
    show Steps p.tables e below (T7.setTop (mkF m 47 #[.val (.ref a1), .val (.int p2), .val (.int p3), .val (.int p4), .val (.int p5), .val (.int p6), .val (.int p7), .val (.int (1 : Int32))] [(.int (f6 (0 : Int32) p6 p7)), (.int ((f5 (0 : Int32) p2 p3) + (f6 (0 : Int32) p4 p5))), (.int x0)])) _
    refine XS.iadd X7.here hx rfl (hb hby d4_47) rfl ?_
    exact k)
  have pre9 : ∀ t, Steps p.tables e below (T7.setTop (mkF m 56 #[.val (.ref a1), .val (.int p2), .val (.int p3), .val (.int p4), .val (.int p5), .val (.int p6), .val (.int p7), .val (.int (1 : Int32))] [(.int (m4_9_0 p2 p3 p4 p5 p6 p7 x0))])) t → Steps p.tables e below (s₁.setTop (entryFrame m #[(.ref a1), (.int p2), (.int p3), (.int p4), (.int p5), (.int p6), (.int p7)] 8)) t := by
    intro t k
    by_cases hc10 : x0 = (((f5 (0 : Int32) p2 p3) + (f6 (0 : Int32) p4 p5)) + (f6 (0 : Int32) p6 p7))
    · rw [show (m4_9_0 p2 p3 p4 p5 p6 p7 x0) = (1 : Int32) from by first | (rw [m4_9_0, if_pos hc10]; done) | (simp only [m4_9_0, if_pos hc10]; done) | rfl] at k
      refine pre8 t ?_
      show Steps p.tables e below (T7.setTop (mkF m 48 #[.val (.ref a1), .val (.int p2), .val (.int p3), .val (.int p4), .val (.int p5), .val (.int p6), .val (.int p7), .val (.int (1 : Int32))] [(.int (((f5 (0 : Int32) p2 p3) + (f6 (0 : Int32) p4 p5)) + (f6 (0 : Int32) p6 p7))), (.int x0)])) _
      refine XS.icmpNo X7.here hx rfl (hb hby d4_48) rfl (teq hc10).2 ?_
      show Steps p.tables e below (T7.setTop (mkF m 51 #[.val (.ref a1), .val (.int p2), .val (.int p3), .val (.int p4), .val (.int p5), .val (.int p6), .val (.int p7), .val (.int (1 : Int32))] [])) _
      refine XS.iconst X7.here hx rfl (hb hby d4_51) ?_
      show Steps p.tables e below (T7.setTop (mkF m 52 #[.val (.ref a1), .val (.int p2), .val (.int p3), .val (.int p4), .val (.int p5), .val (.int p6), .val (.int p7), .val (.int (1 : Int32))] [(.int (1 : Int32))])) _
      refine XS.goto X7.here hx rfl (pc0 := 52) (pc' := 56) rfl (hb hby d4_52) (by decide) (by decide) ?_
      exact k
    · rw [show (m4_9_0 p2 p3 p4 p5 p6 p7 x0) = (0 : Int32) from by first | (rw [m4_9_0, if_neg hc10]; done) | (simp only [m4_9_0, if_neg hc10]; done) | rfl] at k
      refine pre8 t ?_
      show Steps p.tables e below (T7.setTop (mkF m 48 #[.val (.ref a1), .val (.int p2), .val (.int p3), .val (.int p4), .val (.int p5), .val (.int p6), .val (.int p7), .val (.int (1 : Int32))] [(.int (((f5 (0 : Int32) p2 p3) + (f6 (0 : Int32) p4 p5)) + (f6 (0 : Int32) p6 p7))), (.int x0)])) _
      refine XS.icmpYes X7.here hx rfl (pc0 := 48) (pc' := 55) rfl (hb hby d4_48) rfl (feq hc10).2 (by decide) (by decide) ?_
      show Steps p.tables e below (T7.setTop (mkF m 55 #[.val (.ref a1), .val (.int p2), .val (.int p3), .val (.int p4), .val (.int p5), .val (.int p6), .val (.int p7), .val (.int (1 : Int32))] [])) _
      refine XS.iconst X7.here hx rfl (hb hby d4_55) ?_
      exact k
  have pre11 : ∀ t, Steps p.tables e below (T7.setTop (mkF m 60 #[.val (.ref a1), .val (.int p2), .val (.int p3), .val (.int p4), .val (.int p5), .val (.int p6), .val (.int p7), .val (.int (m4_9_0 p2 p3 p4 p5 p6 p7 x0))] [(.int (m4_9_0 p2 p3 p4 p5 p6 p7 x0))])) t → Steps p.tables e below (s₁.setTop (entryFrame m #[(.ref a1), (.int p2), (.int p3), (.int p4), (.int p5), (.int p6), (.int p7)] 8)) t := fun t k => pre9 t (by
    show Steps p.tables e below (T7.setTop (mkF m 56 #[.val (.ref a1), .val (.int p2), .val (.int p3), .val (.int p4), .val (.int p5), .val (.int p6), .val (.int p7), .val (.int (1 : Int32))] [(.int (m4_9_0 p2 p3 p4 p5 p6 p7 x0))])) _
    refine XS.istore X7.here hx rfl (hb hby d4_56) rfl (l' := #[.val (.ref a1), .val (.int p2), .val (.int p3), .val (.int p4), .val (.int p5), .val (.int p6), .val (.int p7), .val (.int (m4_9_0 p2 p3 p4 p5 p6 p7 x0))]) rfl ?_
    show Steps p.tables e below (T7.setTop (mkF m 58 #[.val (.ref a1), .val (.int p2), .val (.int p3), .val (.int p4), .val (.int p5), .val (.int p6), .val (.int p7), .val (.int (m4_9_0 p2 p3 p4 p5 p6 p7 x0))] [])) _
    refine XS.iload X7.here hx rfl (hb hby d4_58) rfl ?_
    exact k)
  obtain ⟨T12, locs12, X12, e12, N12, pre12⟩ : ∃ (T' : State) (locs' : List Loc), Stand p l e ({ frames := 2, cells := 0, slots := 0, locals := 30 } : Room) s m #[(.ref a1), (.int p2), (.int p3), (.int p4), (.int p5), (.int p6), (.int p7)] below meth c T' locs' 0 0 ∧ T'.heap = h0 ∧ Fr n0 locs' ∧ ∀ t, Steps p.tables e below (T'.setTop (mkF m 100 #[.val (.ref a1), .val (.int p2), .val (.int p3), .val (.int p4), .val (.int p5), .val (.int p6), .val (.int p7), .val (.int (m4_9_0 p2 p3 p4 p5 p6 p7 x0))] [(.int (m4_12_0 p2 p3 p4 p5 p6 p7 x0 x1))])) t → Steps p.tables e below (s₁.setTop (entryFrame m #[(.ref a1), (.int p2), (.int p3), (.int p4), (.int p5), (.int p6), (.int p7)] 8)) t := by
    by_cases hc13 : (m4_9_0 p2 p3 p4 p5 p6 p7 x0) = (0 : Int32)
    · exact ⟨_, _, X7, e7, N7, fun t k => pre11 t (by
        rw [show (m4_12_0 p2 p3 p4 p5 p6 p7 x0 x1) = (0 : Int32) from by first | (rw [m4_12_0, if_pos hc13]; done) | (simp only [m4_12_0, if_pos hc13]; done) | rfl] at k
        show Steps p.tables e below (T7.setTop (mkF m 60 #[.val (.ref a1), .val (.int p2), .val (.int p3), .val (.int p4), .val (.int p5), .val (.int p6), .val (.int p7), .val (.int (m4_9_0 p2 p3 p4 p5 p6 p7 x0))] [(.int (m4_9_0 p2 p3 p4 p5 p6 p7 x0))])) _
        refine XS.ifYes X7.here hx rfl (pc0 := 60) (pc' := 99) rfl (hb hby d4_60) rfl ((if0 _ _).trans (teq hc13).1) (by decide) (by decide) ?_
        show Steps p.tables e below (T7.setTop (mkF m 99 #[.val (.ref a1), .val (.int p2), .val (.int p3), .val (.int p4), .val (.int p5), .val (.int p6), .val (.int p7), .val (.int (m4_9_0 p2 p3 p4 p5 p6 p7 x0))] [])) _
        refine XS.iconst X7.here hx rfl (hb hby d4_99) ?_
        exact k)⟩
    · obtain ⟨T14, X14, e14, st14⟩ := getF X7 hx hZ hown (host := "") (Or.inl (hw _ (List.mem_of_getElem? (i := 40) rfl))) Via.refl e7 F_a1_residual (g := (mkF m 64 #[.val (.ref a1), .val (.int p2), .val (.int p3), .val (.int p4), .val (.int p5), .val (.int p6), .val (.int p7), .val (.int (m4_9_0 p2 p3 p4 p5 p6 p7 x0))] [(.ref a1)])) rfl rfl (hb hby d4_64)
      obtain ⟨cl15, A15, S15, Nl15, M15⟩ := id V_r
      have hin15 : ¬ ((1 : Int32) < 0 ∨ cl15.slots.size ≤ ((1 : Int32)).toNatClampNeg) := AV.inb S15 Nl15 ⟨by decide, by decide⟩
      have hat15 : cl15.slots[((1 : Int32)).toNatClampNeg]? = some (.int x1) := AV.at S15 rfl
      obtain ⟨_, _, ⟨T16, L16, k16, n16⟩, -, X16, ⟨Lc16, hQ16, l16, y16, z16⟩, st16⟩ := Jvm.LawKit.callS X14 hx (y := (⟨"com/example/hindsight/hindsight/solvers/ResidualNetworkPushPinLaw", "initial", "(III)I"⟩ : MethodName)) hown (mvT hZ (hw _ (List.mem_of_getElem? (i := 41) rfl))) (mvT hZ (hw _ (List.mem_of_getElem? (i := 42) rfl))) (mvT hZ (hw _ (List.mem_of_getElem? (i := 38) rfl))) (mvT hZ (hw _ (List.mem_of_getElem? (i := 43) rfl))) (by decide) (backOf (W := 1) (rm5 l Z a0 hw [] (1 : Int32) p2 p3 h0 n0 Z0) hZ (hw _ (List.mem_of_getElem? (i := 43) rfl)) (hw _ (List.mem_of_getElem? (i := 38) rfl)) (by decide) (by decide)) (g := (mkF m 72 #[.val (.ref a1), .val (.int p2), .val (.int p3), .val (.int p4), .val (.int p5), .val (.int p6), .val (.int p7), .val (.int (m4_9_0 p2 p3 p4 p5 p6 p7 x0))] [(.int p3), (.int p2), (.int (1 : Int32)), (.int x1)])) rfl (by rw [hml]; rfl) (argsL := [(.int (1 : Int32)), (.int p2), (.int p3)]) (rest := [(.int x1)]) (lenOf pd_1 rfl) rfl (by show 2 * 0 + _ ≤ _; exact Nat.le_of_eq rfl) (hb hby d4_72) (fun _ _ => ⟨rfl, e14, (by decide : 0 + 0 ≤ _), (by decide : 0 + 0 ≤ _)⟩)
      dsimp only [Pt.U, Pt.locs, Pt.cells, Pt.slots] at X16 l16 y16 z16 st16 hQ16
      subst l16 y16 z16
      obtain ⟨rfl, N16q, e16⟩ := hQ16
      have N16 := Fr.app N7 N16q
      obtain ⟨_, _, ⟨T17, L17, k17, n17⟩, -, X17, ⟨Lc17, hQ17, l17, y17, z17⟩, st17⟩ := Jvm.LawKit.callS X16 hx (y := (⟨"com/example/hindsight/hindsight/solvers/ResidualNetworkPushPinLaw", "delta", "(III)I"⟩ : MethodName)) hown (mvT hZ (hw _ (List.mem_of_getElem? (i := 44) rfl))) (mvT hZ (hw _ (List.mem_of_getElem? (i := 45) rfl))) (mvT hZ (hw _ (List.mem_of_getElem? (i := 38) rfl))) (mvT hZ (hw _ (List.mem_of_getElem? (i := 46) rfl))) (by decide) (backOf (W := 2) (rm6 l Z a0 hw [] (1 : Int32) p4 p5 h0 n0 Z0) hZ (hw _ (List.mem_of_getElem? (i := 46) rfl)) (hw _ (List.mem_of_getElem? (i := 38) rfl)) (by decide) (by decide)) (g := (mkF m 79 #[.val (.ref a1), .val (.int p2), .val (.int p3), .val (.int p4), .val (.int p5), .val (.int p6), .val (.int p7), .val (.int (m4_9_0 p2 p3 p4 p5 p6 p7 x0))] [(.int p5), (.int p4), (.int (1 : Int32)), (.int (f5 (1 : Int32) p2 p3)), (.int x1)])) rfl (by rw [hml]; rfl) (argsL := [(.int (1 : Int32)), (.int p4), (.int p5)]) (rest := [(.int (f5 (1 : Int32) p2 p3)), (.int x1)]) (lenOf pd_1 rfl) rfl (by show 2 * 0 + _ ≤ _; exact Nat.le_of_eq rfl) (hb hby d4_79) (fun _ _ => ⟨rfl, e16, (by decide : 0 + 0 ≤ _), (by decide : 0 + 0 ≤ _)⟩)
      dsimp only [Pt.U, Pt.locs, Pt.cells, Pt.slots] at X17 l17 y17 z17 st17 hQ17
      subst l17 y17 z17
      obtain ⟨rfl, N17q, e17⟩ := hQ17
      have N17 := Fr.app N16 N17q
      obtain ⟨_, _, ⟨T18, L18, k18, n18⟩, -, X18, ⟨Lc18, hQ18, l18, y18, z18⟩, st18⟩ := Jvm.LawKit.callS X17 hx (y := (⟨"com/example/hindsight/hindsight/solvers/ResidualNetworkPushPinLaw", "delta", "(III)I"⟩ : MethodName)) hown (mvT hZ (hw _ (List.mem_of_getElem? (i := 44) rfl))) (mvT hZ (hw _ (List.mem_of_getElem? (i := 45) rfl))) (mvT hZ (hw _ (List.mem_of_getElem? (i := 38) rfl))) (mvT hZ (hw _ (List.mem_of_getElem? (i := 46) rfl))) (by decide) (backOf (W := 2) (rm6 l Z a0 hw [] (1 : Int32) p6 p7 h0 n0 Z0) hZ (hw _ (List.mem_of_getElem? (i := 46) rfl)) (hw _ (List.mem_of_getElem? (i := 38) rfl)) (by decide) (by decide)) (g := (mkF m 88 #[.val (.ref a1), .val (.int p2), .val (.int p3), .val (.int p4), .val (.int p5), .val (.int p6), .val (.int p7), .val (.int (m4_9_0 p2 p3 p4 p5 p6 p7 x0))] [(.int p7), (.int p6), (.int (1 : Int32)), (.int ((f5 (1 : Int32) p2 p3) + (f6 (1 : Int32) p4 p5))), (.int x1)])) rfl (by rw [hml]; rfl) (argsL := [(.int (1 : Int32)), (.int p6), (.int p7)]) (rest := [(.int ((f5 (1 : Int32) p2 p3) + (f6 (1 : Int32) p4 p5))), (.int x1)]) (lenOf pd_1 rfl) rfl (by show 2 * 0 + _ ≤ _; exact Nat.le_of_eq rfl) (hb hby d4_88) (fun _ _ => ⟨rfl, e17, (by decide : 0 + 0 ≤ _), (by decide : 0 + 0 ≤ _)⟩)
      dsimp only [Pt.U, Pt.locs, Pt.cells, Pt.slots] at X18 l18 y18 z18 st18 hQ18
      subst l18 y18 z18
      obtain ⟨rfl, N18q, e18⟩ := hQ18
      have N18 := Fr.app N17 N18q
      have pre19 : ∀ t, Steps p.tables e below (T18.setTop (mkF m 92 #[.val (.ref a1), .val (.int p2), .val (.int p3), .val (.int p4), .val (.int p5), .val (.int p6), .val (.int p7), .val (.int (m4_9_0 p2 p3 p4 p5 p6 p7 x0))] [(.int (((f5 (1 : Int32) p2 p3) + (f6 (1 : Int32) p4 p5)) + (f6 (1 : Int32) p6 p7))), (.int x1)])) t → Steps p.tables e below (s₁.setTop (entryFrame m #[(.ref a1), (.int p2), (.int p3), (.int p4), (.int p5), (.int p6), (.int p7)] 8)) t := fun t k => pre11 t (by
        show Steps p.tables e below (T7.setTop (mkF m 60 #[.val (.ref a1), .val (.int p2), .val (.int p3), .val (.int p4), .val (.int p5), .val (.int p6), .val (.int p7), .val (.int (m4_9_0 p2 p3 p4 p5 p6 p7 x0))] [(.int (m4_9_0 p2 p3 p4 p5 p6 p7 x0))])) _
        refine XS.ifNo X7.here hx rfl (hb hby d4_60) rfl ((if0 _ _).trans (feq hc13).1) ?_
        show Steps p.tables e below (T7.setTop (mkF m 63 #[.val (.ref a1), .val (.int p2), .val (.int p3), .val (.int p4), .val (.int p5), .val (.int p6), .val (.int p7), .val (.int (m4_9_0 p2 p3 p4 p5 p6 p7 x0))] [])) _
        refine XS.aloadN X7.here hx rfl (hb hby d4_63) rfl rfl ?_
        show Steps p.tables e below (T7.setTop (mkF m 64 #[.val (.ref a1), .val (.int p2), .val (.int p3), .val (.int p4), .val (.int p5), .val (.int p6), .val (.int p7), .val (.int (m4_9_0 p2 p3 p4 p5 p6 p7 x0))] [(.ref a1)])) _
        refine st14 _ ?_
        show Steps p.tables e below (T14.setTop (mkF m 67 #[.val (.ref a1), .val (.int p2), .val (.int p3), .val (.int p4), .val (.int p5), .val (.int p6), .val (.int p7), .val (.int (m4_9_0 p2 p3 p4 p5 p6 p7 x0))] [(.ref r)])) _
        refine XS.iconst X14.here hx rfl (hb hby d4_67) ?_
        show Steps p.tables e below (T14.setTop (mkF m 68 #[.val (.ref a1), .val (.int p2), .val (.int p3), .val (.int p4), .val (.int p5), .val (.int p6), .val (.int p7), .val (.int (m4_9_0 p2 p3 p4 p5 p6 p7 x0))] [(.int (1 : Int32)), (.ref r)])) _
        refine X14.iaload hx (j := (1 : Int32)) (v := (.int x1)) (by rw [e14]; exact A15.1) (State.isArrayOf_alike hZ.alike A15.2.1) A15.2.2 hin15 hat15 (g := (mkF m 68 #[.val (.ref a1), .val (.int p2), .val (.int p3), .val (.int p4), .val (.int p5), .val (.int p6), .val (.int p7), .val (.int (m4_9_0 p2 p3 p4 p5 p6 p7 x0))] [(.int (1 : Int32)), (.ref r)])) rfl rfl (hb hby d4_68) _ ?_
        show Steps p.tables e below (T14.setTop (mkF m 69 #[.val (.ref a1), .val (.int p2), .val (.int p3), .val (.int p4), .val (.int p5), .val (.int p6), .val (.int p7), .val (.int (m4_9_0 p2 p3 p4 p5 p6 p7 x0))] [(.int x1)])) _
        refine XS.iconst X14.here hx rfl (hb hby d4_69) ?_
        show Steps p.tables e below (T14.setTop (mkF m 70 #[.val (.ref a1), .val (.int p2), .val (.int p3), .val (.int p4), .val (.int p5), .val (.int p6), .val (.int p7), .val (.int (m4_9_0 p2 p3 p4 p5 p6 p7 x0))] [(.int (1 : Int32)), (.int x1)])) _
        refine XS.iloadN X14.here hx rfl (hb hby d4_70) rfl ?_
        show Steps p.tables e below (T14.setTop (mkF m 71 #[.val (.ref a1), .val (.int p2), .val (.int p3), .val (.int p4), .val (.int p5), .val (.int p6), .val (.int p7), .val (.int (m4_9_0 p2 p3 p4 p5 p6 p7 x0))] [(.int p2), (.int (1 : Int32)), (.int x1)])) _
        refine XS.iloadN X14.here hx rfl (hb hby d4_71) rfl ?_
        show Steps p.tables e below (T14.setTop (mkF m 72 #[.val (.ref a1), .val (.int p2), .val (.int p3), .val (.int p4), .val (.int p5), .val (.int p6), .val (.int p7), .val (.int (m4_9_0 p2 p3 p4 p5 p6 p7 x0))] [(.int p3), (.int p2), (.int (1 : Int32)), (.int x1)])) _
        refine st16 _ ?_
        show Steps p.tables e below (T16.setTop (mkF m 75 #[.val (.ref a1), .val (.int p2), .val (.int p3), .val (.int p4), .val (.int p5), .val (.int p6), .val (.int p7), .val (.int (m4_9_0 p2 p3 p4 p5 p6 p7 x0))] [(.int (f5 (1 : Int32) p2 p3)), (.int x1)])) _
        refine XS.iconst X16.here hx rfl (hb hby d4_75) ?_
        show Steps p.tables e below (T16.setTop (mkF m 76 #[.val (.ref a1), .val (.int p2), .val (.int p3), .val (.int p4), .val (.int p5), .val (.int p6), .val (.int p7), .val (.int (m4_9_0 p2 p3 p4 p5 p6 p7 x0))] [(.int (1 : Int32)), (.int (f5 (1 : Int32) p2 p3)), (.int x1)])) _
        refine XS.iloadN X16.here hx rfl (hb hby d4_76) rfl ?_
        show Steps p.tables e below (T16.setTop (mkF m 77 #[.val (.ref a1), .val (.int p2), .val (.int p3), .val (.int p4), .val (.int p5), .val (.int p6), .val (.int p7), .val (.int (m4_9_0 p2 p3 p4 p5 p6 p7 x0))] [(.int p4), (.int (1 : Int32)), (.int (f5 (1 : Int32) p2 p3)), (.int x1)])) _
        refine XS.iload X16.here hx rfl (hb hby d4_77) rfl ?_
        show Steps p.tables e below (T16.setTop (mkF m 79 #[.val (.ref a1), .val (.int p2), .val (.int p3), .val (.int p4), .val (.int p5), .val (.int p6), .val (.int p7), .val (.int (m4_9_0 p2 p3 p4 p5 p6 p7 x0))] [(.int p5), (.int p4), (.int (1 : Int32)), (.int (f5 (1 : Int32) p2 p3)), (.int x1)])) _
        refine st17 _ ?_
        show Steps p.tables e below (T17.setTop (mkF m 82 #[.val (.ref a1), .val (.int p2), .val (.int p3), .val (.int p4), .val (.int p5), .val (.int p6), .val (.int p7), .val (.int (m4_9_0 p2 p3 p4 p5 p6 p7 x0))] [(.int (f6 (1 : Int32) p4 p5)), (.int (f5 (1 : Int32) p2 p3)), (.int x1)])) _
        refine XS.iadd X17.here hx rfl (hb hby d4_82) rfl ?_
        show Steps p.tables e below (T17.setTop (mkF m 83 #[.val (.ref a1), .val (.int p2), .val (.int p3), .val (.int p4), .val (.int p5), .val (.int p6), .val (.int p7), .val (.int (m4_9_0 p2 p3 p4 p5 p6 p7 x0))] [(.int ((f5 (1 : Int32) p2 p3) + (f6 (1 : Int32) p4 p5))), (.int x1)])) _
        refine XS.iconst X17.here hx rfl (hb hby d4_83) ?_
        show Steps p.tables e below (T17.setTop (mkF m 84 #[.val (.ref a1), .val (.int p2), .val (.int p3), .val (.int p4), .val (.int p5), .val (.int p6), .val (.int p7), .val (.int (m4_9_0 p2 p3 p4 p5 p6 p7 x0))] [(.int (1 : Int32)), (.int ((f5 (1 : Int32) p2 p3) + (f6 (1 : Int32) p4 p5))), (.int x1)])) _
        refine XS.iload X17.here hx rfl (hb hby d4_84) rfl ?_
        show Steps p.tables e below (T17.setTop (mkF m 86 #[.val (.ref a1), .val (.int p2), .val (.int p3), .val (.int p4), .val (.int p5), .val (.int p6), .val (.int p7), .val (.int (m4_9_0 p2 p3 p4 p5 p6 p7 x0))] [(.int p6), (.int (1 : Int32)), (.int ((f5 (1 : Int32) p2 p3) + (f6 (1 : Int32) p4 p5))), (.int x1)])) _
        refine XS.iload X17.here hx rfl (hb hby d4_86) rfl ?_
        show Steps p.tables e below (T17.setTop (mkF m 88 #[.val (.ref a1), .val (.int p2), .val (.int p3), .val (.int p4), .val (.int p5), .val (.int p6), .val (.int p7), .val (.int (m4_9_0 p2 p3 p4 p5 p6 p7 x0))] [(.int p7), (.int p6), (.int (1 : Int32)), (.int ((f5 (1 : Int32) p2 p3) + (f6 (1 : Int32) p4 p5))), (.int x1)])) _
        refine st18 _ ?_
        show Steps p.tables e below (T18.setTop (mkF m 91 #[.val (.ref a1), .val (.int p2), .val (.int p3), .val (.int p4), .val (.int p5), .val (.int p6), .val (.int p7), .val (.int (m4_9_0 p2 p3 p4 p5 p6 p7 x0))] [(.int (f6 (1 : Int32) p6 p7)), (.int ((f5 (1 : Int32) p2 p3) + (f6 (1 : Int32) p4 p5))), (.int x1)])) _
        refine XS.iadd X18.here hx rfl (hb hby d4_91) rfl ?_
        exact k)
      by_cases hc20 : x1 = (((f5 (1 : Int32) p2 p3) + (f6 (1 : Int32) p4 p5)) + (f6 (1 : Int32) p6 p7))
      · exact ⟨_, _, X18, e18, N18, fun t k => pre19 t (by
          rw [show (m4_12_0 p2 p3 p4 p5 p6 p7 x0 x1) = (1 : Int32) from by first | (rw [m4_12_0, if_neg hc13, if_pos hc20]; done) | (simp only [m4_12_0, if_neg hc13, if_pos hc20]; done) | rfl] at k
          show Steps p.tables e below (T18.setTop (mkF m 92 #[.val (.ref a1), .val (.int p2), .val (.int p3), .val (.int p4), .val (.int p5), .val (.int p6), .val (.int p7), .val (.int (m4_9_0 p2 p3 p4 p5 p6 p7 x0))] [(.int (((f5 (1 : Int32) p2 p3) + (f6 (1 : Int32) p4 p5)) + (f6 (1 : Int32) p6 p7))), (.int x1)])) _
          refine XS.icmpNo X18.here hx rfl (hb hby d4_92) rfl (teq hc20).2 ?_
          show Steps p.tables e below (T18.setTop (mkF m 95 #[.val (.ref a1), .val (.int p2), .val (.int p3), .val (.int p4), .val (.int p5), .val (.int p6), .val (.int p7), .val (.int (m4_9_0 p2 p3 p4 p5 p6 p7 x0))] [])) _
          refine XS.iconst X18.here hx rfl (hb hby d4_95) ?_
          show Steps p.tables e below (T18.setTop (mkF m 96 #[.val (.ref a1), .val (.int p2), .val (.int p3), .val (.int p4), .val (.int p5), .val (.int p6), .val (.int p7), .val (.int (m4_9_0 p2 p3 p4 p5 p6 p7 x0))] [(.int (1 : Int32))])) _
          refine XS.goto X18.here hx rfl (pc0 := 96) (pc' := 100) rfl (hb hby d4_96) (by decide) (by decide) ?_
          exact k)⟩
      · exact ⟨_, _, X18, e18, N18, fun t k => pre19 t (by
          rw [show (m4_12_0 p2 p3 p4 p5 p6 p7 x0 x1) = (0 : Int32) from by first | (rw [m4_12_0, if_neg hc13, if_neg hc20]; done) | (simp only [m4_12_0, if_neg hc13, if_neg hc20]; done) | rfl] at k
          show Steps p.tables e below (T18.setTop (mkF m 92 #[.val (.ref a1), .val (.int p2), .val (.int p3), .val (.int p4), .val (.int p5), .val (.int p6), .val (.int p7), .val (.int (m4_9_0 p2 p3 p4 p5 p6 p7 x0))] [(.int (((f5 (1 : Int32) p2 p3) + (f6 (1 : Int32) p4 p5)) + (f6 (1 : Int32) p6 p7))), (.int x1)])) _
          refine XS.icmpYes X18.here hx rfl (pc0 := 92) (pc' := 99) rfl (hb hby d4_92) rfl (feq hc20).2 (by decide) (by decide) ?_
          show Steps p.tables e below (T18.setTop (mkF m 99 #[.val (.ref a1), .val (.int p2), .val (.int p3), .val (.int p4), .val (.int p5), .val (.int p6), .val (.int p7), .val (.int (m4_9_0 p2 p3 p4 p5 p6 p7 x0))] [])) _
          refine XS.iconst X18.here hx rfl (hb hby d4_99) ?_
          exact k)⟩
  have pre21 : ∀ t, Steps p.tables e below (T12.setTop (mkF m 104 #[.val (.ref a1), .val (.int p2), .val (.int p3), .val (.int p4), .val (.int p5), .val (.int p6), .val (.int p7), .val (.int (m4_12_0 p2 p3 p4 p5 p6 p7 x0 x1))] [(.int (m4_12_0 p2 p3 p4 p5 p6 p7 x0 x1))])) t → Steps p.tables e below (s₁.setTop (entryFrame m #[(.ref a1), (.int p2), (.int p3), (.int p4), (.int p5), (.int p6), (.int p7)] 8)) t := fun t k => pre12 t (by
    show Steps p.tables e below (T12.setTop (mkF m 100 #[.val (.ref a1), .val (.int p2), .val (.int p3), .val (.int p4), .val (.int p5), .val (.int p6), .val (.int p7), .val (.int (m4_9_0 p2 p3 p4 p5 p6 p7 x0))] [(.int (m4_12_0 p2 p3 p4 p5 p6 p7 x0 x1))])) _
    refine XS.istore X12.here hx rfl (hb hby d4_100) rfl (l' := #[.val (.ref a1), .val (.int p2), .val (.int p3), .val (.int p4), .val (.int p5), .val (.int p6), .val (.int p7), .val (.int (m4_12_0 p2 p3 p4 p5 p6 p7 x0 x1))]) rfl ?_
    show Steps p.tables e below (T12.setTop (mkF m 102 #[.val (.ref a1), .val (.int p2), .val (.int p3), .val (.int p4), .val (.int p5), .val (.int p6), .val (.int p7), .val (.int (m4_12_0 p2 p3 p4 p5 p6 p7 x0 x1))] [])) _
    refine XS.iload X12.here hx rfl (hb hby d4_102) rfl ?_
    exact k)
  obtain ⟨T22, locs22, X22, e22, N22, pre22⟩ : ∃ (T' : State) (locs' : List Loc), Stand p l e ({ frames := 2, cells := 0, slots := 0, locals := 30 } : Room) s m #[(.ref a1), (.int p2), (.int p3), (.int p4), (.int p5), (.int p6), (.int p7)] below meth c T' locs' 0 0 ∧ T'.heap = h0 ∧ Fr n0 locs' ∧ ∀ t, Steps p.tables e below (T'.setTop (mkF m 144 #[.val (.ref a1), .val (.int p2), .val (.int p3), .val (.int p4), .val (.int p5), .val (.int p6), .val (.int p7), .val (.int (m4_12_0 p2 p3 p4 p5 p6 p7 x0 x1))] [(.int (m4_22_0 p2 p3 p4 p5 p6 p7 x0 x1 x2))])) t → Steps p.tables e below (s₁.setTop (entryFrame m #[(.ref a1), (.int p2), (.int p3), (.int p4), (.int p5), (.int p6), (.int p7)] 8)) t := by
    by_cases hc23 : (m4_12_0 p2 p3 p4 p5 p6 p7 x0 x1) = (0 : Int32)
    · exact ⟨_, _, X12, e12, N12, fun t k => pre21 t (by
        rw [show (m4_22_0 p2 p3 p4 p5 p6 p7 x0 x1 x2) = (0 : Int32) from by first | (rw [m4_22_0, if_pos hc23]; done) | (simp only [m4_22_0, if_pos hc23]; done) | rfl] at k
        show Steps p.tables e below (T12.setTop (mkF m 104 #[.val (.ref a1), .val (.int p2), .val (.int p3), .val (.int p4), .val (.int p5), .val (.int p6), .val (.int p7), .val (.int (m4_12_0 p2 p3 p4 p5 p6 p7 x0 x1))] [(.int (m4_12_0 p2 p3 p4 p5 p6 p7 x0 x1))])) _
        refine XS.ifYes X12.here hx rfl (pc0 := 104) (pc' := 143) rfl (hb hby d4_104) rfl ((if0 _ _).trans (teq hc23).1) (by decide) (by decide) ?_
        show Steps p.tables e below (T12.setTop (mkF m 143 #[.val (.ref a1), .val (.int p2), .val (.int p3), .val (.int p4), .val (.int p5), .val (.int p6), .val (.int p7), .val (.int (m4_12_0 p2 p3 p4 p5 p6 p7 x0 x1))] [])) _
        refine XS.iconst X12.here hx rfl (hb hby d4_143) ?_
        exact k)⟩
    · obtain ⟨T24, X24, e24, st24⟩ := getF X12 hx hZ hown (host := "") (Or.inl (hw _ (List.mem_of_getElem? (i := 40) rfl))) Via.refl e12 F_a1_residual (g := (mkF m 108 #[.val (.ref a1), .val (.int p2), .val (.int p3), .val (.int p4), .val (.int p5), .val (.int p6), .val (.int p7), .val (.int (m4_12_0 p2 p3 p4 p5 p6 p7 x0 x1))] [(.ref a1)])) rfl rfl (hb hby d4_108)
      obtain ⟨cl25, A25, S25, Nl25, M25⟩ := id V_r
      have hin25 : ¬ ((2 : Int32) < 0 ∨ cl25.slots.size ≤ ((2 : Int32)).toNatClampNeg) := AV.inb S25 Nl25 ⟨by decide, by decide⟩
      have hat25 : cl25.slots[((2 : Int32)).toNatClampNeg]? = some (.int x2) := AV.at S25 rfl
      obtain ⟨_, _, ⟨T26, L26, k26, n26⟩, -, X26, ⟨Lc26, hQ26, l26, y26, z26⟩, st26⟩ := Jvm.LawKit.callS X24 hx (y := (⟨"com/example/hindsight/hindsight/solvers/ResidualNetworkPushPinLaw", "initial", "(III)I"⟩ : MethodName)) hown (mvT hZ (hw _ (List.mem_of_getElem? (i := 41) rfl))) (mvT hZ (hw _ (List.mem_of_getElem? (i := 42) rfl))) (mvT hZ (hw _ (List.mem_of_getElem? (i := 38) rfl))) (mvT hZ (hw _ (List.mem_of_getElem? (i := 43) rfl))) (by decide) (backOf (W := 1) (rm5 l Z a0 hw [] (2 : Int32) p2 p3 h0 n0 Z0) hZ (hw _ (List.mem_of_getElem? (i := 43) rfl)) (hw _ (List.mem_of_getElem? (i := 38) rfl)) (by decide) (by decide)) (g := (mkF m 116 #[.val (.ref a1), .val (.int p2), .val (.int p3), .val (.int p4), .val (.int p5), .val (.int p6), .val (.int p7), .val (.int (m4_12_0 p2 p3 p4 p5 p6 p7 x0 x1))] [(.int p3), (.int p2), (.int (2 : Int32)), (.int x2)])) rfl (by rw [hml]; rfl) (argsL := [(.int (2 : Int32)), (.int p2), (.int p3)]) (rest := [(.int x2)]) (lenOf pd_1 rfl) rfl (by show 2 * 0 + _ ≤ _; exact Nat.le_of_eq rfl) (hb hby d4_116) (fun _ _ => ⟨rfl, e24, (by decide : 0 + 0 ≤ _), (by decide : 0 + 0 ≤ _)⟩)
      dsimp only [Pt.U, Pt.locs, Pt.cells, Pt.slots] at X26 l26 y26 z26 st26 hQ26
      subst l26 y26 z26
      obtain ⟨rfl, N26q, e26⟩ := hQ26
      have N26 := Fr.app N12 N26q
      obtain ⟨_, _, ⟨T27, L27, k27, n27⟩, -, X27, ⟨Lc27, hQ27, l27, y27, z27⟩, st27⟩ := Jvm.LawKit.callS X26 hx (y := (⟨"com/example/hindsight/hindsight/solvers/ResidualNetworkPushPinLaw", "delta", "(III)I"⟩ : MethodName)) hown (mvT hZ (hw _ (List.mem_of_getElem? (i := 44) rfl))) (mvT hZ (hw _ (List.mem_of_getElem? (i := 45) rfl))) (mvT hZ (hw _ (List.mem_of_getElem? (i := 38) rfl))) (mvT hZ (hw _ (List.mem_of_getElem? (i := 46) rfl))) (by decide) (backOf (W := 2) (rm6 l Z a0 hw [] (2 : Int32) p4 p5 h0 n0 Z0) hZ (hw _ (List.mem_of_getElem? (i := 46) rfl)) (hw _ (List.mem_of_getElem? (i := 38) rfl)) (by decide) (by decide)) (g := (mkF m 123 #[.val (.ref a1), .val (.int p2), .val (.int p3), .val (.int p4), .val (.int p5), .val (.int p6), .val (.int p7), .val (.int (m4_12_0 p2 p3 p4 p5 p6 p7 x0 x1))] [(.int p5), (.int p4), (.int (2 : Int32)), (.int (f5 (2 : Int32) p2 p3)), (.int x2)])) rfl (by rw [hml]; rfl) (argsL := [(.int (2 : Int32)), (.int p4), (.int p5)]) (rest := [(.int (f5 (2 : Int32) p2 p3)), (.int x2)]) (lenOf pd_1 rfl) rfl (by show 2 * 0 + _ ≤ _; exact Nat.le_of_eq rfl) (hb hby d4_123) (fun _ _ => ⟨rfl, e26, (by decide : 0 + 0 ≤ _), (by decide : 0 + 0 ≤ _)⟩)
      dsimp only [Pt.U, Pt.locs, Pt.cells, Pt.slots] at X27 l27 y27 z27 st27 hQ27
      subst l27 y27 z27
      obtain ⟨rfl, N27q, e27⟩ := hQ27
      have N27 := Fr.app N26 N27q
      obtain ⟨_, _, ⟨T28, L28, k28, n28⟩, -, X28, ⟨Lc28, hQ28, l28, y28, z28⟩, st28⟩ := Jvm.LawKit.callS X27 hx (y := (⟨"com/example/hindsight/hindsight/solvers/ResidualNetworkPushPinLaw", "delta", "(III)I"⟩ : MethodName)) hown (mvT hZ (hw _ (List.mem_of_getElem? (i := 44) rfl))) (mvT hZ (hw _ (List.mem_of_getElem? (i := 45) rfl))) (mvT hZ (hw _ (List.mem_of_getElem? (i := 38) rfl))) (mvT hZ (hw _ (List.mem_of_getElem? (i := 46) rfl))) (by decide) (backOf (W := 2) (rm6 l Z a0 hw [] (2 : Int32) p6 p7 h0 n0 Z0) hZ (hw _ (List.mem_of_getElem? (i := 46) rfl)) (hw _ (List.mem_of_getElem? (i := 38) rfl)) (by decide) (by decide)) (g := (mkF m 132 #[.val (.ref a1), .val (.int p2), .val (.int p3), .val (.int p4), .val (.int p5), .val (.int p6), .val (.int p7), .val (.int (m4_12_0 p2 p3 p4 p5 p6 p7 x0 x1))] [(.int p7), (.int p6), (.int (2 : Int32)), (.int ((f5 (2 : Int32) p2 p3) + (f6 (2 : Int32) p4 p5))), (.int x2)])) rfl (by rw [hml]; rfl) (argsL := [(.int (2 : Int32)), (.int p6), (.int p7)]) (rest := [(.int ((f5 (2 : Int32) p2 p3) + (f6 (2 : Int32) p4 p5))), (.int x2)]) (lenOf pd_1 rfl) rfl (by show 2 * 0 + _ ≤ _; exact Nat.le_of_eq rfl) (hb hby d4_132) (fun _ _ => ⟨rfl, e27, (by decide : 0 + 0 ≤ _), (by decide : 0 + 0 ≤ _)⟩)
      dsimp only [Pt.U, Pt.locs, Pt.cells, Pt.slots] at X28 l28 y28 z28 st28 hQ28
      subst l28 y28 z28
      obtain ⟨rfl, N28q, e28⟩ := hQ28
      have N28 := Fr.app N27 N28q
      have pre29 : ∀ t, Steps p.tables e below (T28.setTop (mkF m 136 #[.val (.ref a1), .val (.int p2), .val (.int p3), .val (.int p4), .val (.int p5), .val (.int p6), .val (.int p7), .val (.int (m4_12_0 p2 p3 p4 p5 p6 p7 x0 x1))] [(.int (((f5 (2 : Int32) p2 p3) + (f6 (2 : Int32) p4 p5)) + (f6 (2 : Int32) p6 p7))), (.int x2)])) t → Steps p.tables e below (s₁.setTop (entryFrame m #[(.ref a1), (.int p2), (.int p3), (.int p4), (.int p5), (.int p6), (.int p7)] 8)) t := fun t k => pre21 t (by
        show Steps p.tables e below (T12.setTop (mkF m 104 #[.val (.ref a1), .val (.int p2), .val (.int p3), .val (.int p4), .val (.int p5), .val (.int p6), .val (.int p7), .val (.int (m4_12_0 p2 p3 p4 p5 p6 p7 x0 x1))] [(.int (m4_12_0 p2 p3 p4 p5 p6 p7 x0 x1))])) _
        refine XS.ifNo X12.here hx rfl (hb hby d4_104) rfl ((if0 _ _).trans (feq hc23).1) ?_
        show Steps p.tables e below (T12.setTop (mkF m 107 #[.val (.ref a1), .val (.int p2), .val (.int p3), .val (.int p4), .val (.int p5), .val (.int p6), .val (.int p7), .val (.int (m4_12_0 p2 p3 p4 p5 p6 p7 x0 x1))] [])) _
        refine XS.aloadN X12.here hx rfl (hb hby d4_107) rfl rfl ?_
        show Steps p.tables e below (T12.setTop (mkF m 108 #[.val (.ref a1), .val (.int p2), .val (.int p3), .val (.int p4), .val (.int p5), .val (.int p6), .val (.int p7), .val (.int (m4_12_0 p2 p3 p4 p5 p6 p7 x0 x1))] [(.ref a1)])) _
        refine st24 _ ?_
        show Steps p.tables e below (T24.setTop (mkF m 111 #[.val (.ref a1), .val (.int p2), .val (.int p3), .val (.int p4), .val (.int p5), .val (.int p6), .val (.int p7), .val (.int (m4_12_0 p2 p3 p4 p5 p6 p7 x0 x1))] [(.ref r)])) _
        refine XS.iconst X24.here hx rfl (hb hby d4_111) ?_
        show Steps p.tables e below (T24.setTop (mkF m 112 #[.val (.ref a1), .val (.int p2), .val (.int p3), .val (.int p4), .val (.int p5), .val (.int p6), .val (.int p7), .val (.int (m4_12_0 p2 p3 p4 p5 p6 p7 x0 x1))] [(.int (2 : Int32)), (.ref r)])) _
        refine X24.iaload hx (j := (2 : Int32)) (v := (.int x2)) (by rw [e24]; exact A25.1) (State.isArrayOf_alike hZ.alike A25.2.1) A25.2.2 hin25 hat25 (g := (mkF m 112 #[.val (.ref a1), .val (.int p2), .val (.int p3), .val (.int p4), .val (.int p5), .val (.int p6), .val (.int p7), .val (.int (m4_12_0 p2 p3 p4 p5 p6 p7 x0 x1))] [(.int (2 : Int32)), (.ref r)])) rfl rfl (hb hby d4_112) _ ?_
        show Steps p.tables e below (T24.setTop (mkF m 113 #[.val (.ref a1), .val (.int p2), .val (.int p3), .val (.int p4), .val (.int p5), .val (.int p6), .val (.int p7), .val (.int (m4_12_0 p2 p3 p4 p5 p6 p7 x0 x1))] [(.int x2)])) _
        refine XS.iconst X24.here hx rfl (hb hby d4_113) ?_
        show Steps p.tables e below (T24.setTop (mkF m 114 #[.val (.ref a1), .val (.int p2), .val (.int p3), .val (.int p4), .val (.int p5), .val (.int p6), .val (.int p7), .val (.int (m4_12_0 p2 p3 p4 p5 p6 p7 x0 x1))] [(.int (2 : Int32)), (.int x2)])) _
        refine XS.iloadN X24.here hx rfl (hb hby d4_114) rfl ?_
        show Steps p.tables e below (T24.setTop (mkF m 115 #[.val (.ref a1), .val (.int p2), .val (.int p3), .val (.int p4), .val (.int p5), .val (.int p6), .val (.int p7), .val (.int (m4_12_0 p2 p3 p4 p5 p6 p7 x0 x1))] [(.int p2), (.int (2 : Int32)), (.int x2)])) _
        refine XS.iloadN X24.here hx rfl (hb hby d4_115) rfl ?_
        show Steps p.tables e below (T24.setTop (mkF m 116 #[.val (.ref a1), .val (.int p2), .val (.int p3), .val (.int p4), .val (.int p5), .val (.int p6), .val (.int p7), .val (.int (m4_12_0 p2 p3 p4 p5 p6 p7 x0 x1))] [(.int p3), (.int p2), (.int (2 : Int32)), (.int x2)])) _
        refine st26 _ ?_
        show Steps p.tables e below (T26.setTop (mkF m 119 #[.val (.ref a1), .val (.int p2), .val (.int p3), .val (.int p4), .val (.int p5), .val (.int p6), .val (.int p7), .val (.int (m4_12_0 p2 p3 p4 p5 p6 p7 x0 x1))] [(.int (f5 (2 : Int32) p2 p3)), (.int x2)])) _
        refine XS.iconst X26.here hx rfl (hb hby d4_119) ?_
        show Steps p.tables e below (T26.setTop (mkF m 120 #[.val (.ref a1), .val (.int p2), .val (.int p3), .val (.int p4), .val (.int p5), .val (.int p6), .val (.int p7), .val (.int (m4_12_0 p2 p3 p4 p5 p6 p7 x0 x1))] [(.int (2 : Int32)), (.int (f5 (2 : Int32) p2 p3)), (.int x2)])) _
        refine XS.iloadN X26.here hx rfl (hb hby d4_120) rfl ?_
        show Steps p.tables e below (T26.setTop (mkF m 121 #[.val (.ref a1), .val (.int p2), .val (.int p3), .val (.int p4), .val (.int p5), .val (.int p6), .val (.int p7), .val (.int (m4_12_0 p2 p3 p4 p5 p6 p7 x0 x1))] [(.int p4), (.int (2 : Int32)), (.int (f5 (2 : Int32) p2 p3)), (.int x2)])) _
        refine XS.iload X26.here hx rfl (hb hby d4_121) rfl ?_
        show Steps p.tables e below (T26.setTop (mkF m 123 #[.val (.ref a1), .val (.int p2), .val (.int p3), .val (.int p4), .val (.int p5), .val (.int p6), .val (.int p7), .val (.int (m4_12_0 p2 p3 p4 p5 p6 p7 x0 x1))] [(.int p5), (.int p4), (.int (2 : Int32)), (.int (f5 (2 : Int32) p2 p3)), (.int x2)])) _
        refine st27 _ ?_
        show Steps p.tables e below (T27.setTop (mkF m 126 #[.val (.ref a1), .val (.int p2), .val (.int p3), .val (.int p4), .val (.int p5), .val (.int p6), .val (.int p7), .val (.int (m4_12_0 p2 p3 p4 p5 p6 p7 x0 x1))] [(.int (f6 (2 : Int32) p4 p5)), (.int (f5 (2 : Int32) p2 p3)), (.int x2)])) _
        refine XS.iadd X27.here hx rfl (hb hby d4_126) rfl ?_
        show Steps p.tables e below (T27.setTop (mkF m 127 #[.val (.ref a1), .val (.int p2), .val (.int p3), .val (.int p4), .val (.int p5), .val (.int p6), .val (.int p7), .val (.int (m4_12_0 p2 p3 p4 p5 p6 p7 x0 x1))] [(.int ((f5 (2 : Int32) p2 p3) + (f6 (2 : Int32) p4 p5))), (.int x2)])) _
        refine XS.iconst X27.here hx rfl (hb hby d4_127) ?_
        show Steps p.tables e below (T27.setTop (mkF m 128 #[.val (.ref a1), .val (.int p2), .val (.int p3), .val (.int p4), .val (.int p5), .val (.int p6), .val (.int p7), .val (.int (m4_12_0 p2 p3 p4 p5 p6 p7 x0 x1))] [(.int (2 : Int32)), (.int ((f5 (2 : Int32) p2 p3) + (f6 (2 : Int32) p4 p5))), (.int x2)])) _
        refine XS.iload X27.here hx rfl (hb hby d4_128) rfl ?_
        show Steps p.tables e below (T27.setTop (mkF m 130 #[.val (.ref a1), .val (.int p2), .val (.int p3), .val (.int p4), .val (.int p5), .val (.int p6), .val (.int p7), .val (.int (m4_12_0 p2 p3 p4 p5 p6 p7 x0 x1))] [(.int p6), (.int (2 : Int32)), (.int ((f5 (2 : Int32) p2 p3) + (f6 (2 : Int32) p4 p5))), (.int x2)])) _
        refine XS.iload X27.here hx rfl (hb hby d4_130) rfl ?_
        show Steps p.tables e below (T27.setTop (mkF m 132 #[.val (.ref a1), .val (.int p2), .val (.int p3), .val (.int p4), .val (.int p5), .val (.int p6), .val (.int p7), .val (.int (m4_12_0 p2 p3 p4 p5 p6 p7 x0 x1))] [(.int p7), (.int p6), (.int (2 : Int32)), (.int ((f5 (2 : Int32) p2 p3) + (f6 (2 : Int32) p4 p5))), (.int x2)])) _
        refine st28 _ ?_
        show Steps p.tables e below (T28.setTop (mkF m 135 #[.val (.ref a1), .val (.int p2), .val (.int p3), .val (.int p4), .val (.int p5), .val (.int p6), .val (.int p7), .val (.int (m4_12_0 p2 p3 p4 p5 p6 p7 x0 x1))] [(.int (f6 (2 : Int32) p6 p7)), (.int ((f5 (2 : Int32) p2 p3) + (f6 (2 : Int32) p4 p5))), (.int x2)])) _
        refine XS.iadd X28.here hx rfl (hb hby d4_135) rfl ?_
        exact k)
      by_cases hc30 : x2 = (((f5 (2 : Int32) p2 p3) + (f6 (2 : Int32) p4 p5)) + (f6 (2 : Int32) p6 p7))
      · exact ⟨_, _, X28, e28, N28, fun t k => pre29 t (by
          rw [show (m4_22_0 p2 p3 p4 p5 p6 p7 x0 x1 x2) = (1 : Int32) from by first | (rw [m4_22_0, if_neg hc23, if_pos hc30]; done) | (simp only [m4_22_0, if_neg hc23, if_pos hc30]; done) | rfl] at k
          show Steps p.tables e below (T28.setTop (mkF m 136 #[.val (.ref a1), .val (.int p2), .val (.int p3), .val (.int p4), .val (.int p5), .val (.int p6), .val (.int p7), .val (.int (m4_12_0 p2 p3 p4 p5 p6 p7 x0 x1))] [(.int (((f5 (2 : Int32) p2 p3) + (f6 (2 : Int32) p4 p5)) + (f6 (2 : Int32) p6 p7))), (.int x2)])) _
          refine XS.icmpNo X28.here hx rfl (hb hby d4_136) rfl (teq hc30).2 ?_
          show Steps p.tables e below (T28.setTop (mkF m 139 #[.val (.ref a1), .val (.int p2), .val (.int p3), .val (.int p4), .val (.int p5), .val (.int p6), .val (.int p7), .val (.int (m4_12_0 p2 p3 p4 p5 p6 p7 x0 x1))] [])) _
          refine XS.iconst X28.here hx rfl (hb hby d4_139) ?_
          show Steps p.tables e below (T28.setTop (mkF m 140 #[.val (.ref a1), .val (.int p2), .val (.int p3), .val (.int p4), .val (.int p5), .val (.int p6), .val (.int p7), .val (.int (m4_12_0 p2 p3 p4 p5 p6 p7 x0 x1))] [(.int (1 : Int32))])) _
          refine XS.goto X28.here hx rfl (pc0 := 140) (pc' := 144) rfl (hb hby d4_140) (by decide) (by decide) ?_
          exact k)⟩
      · exact ⟨_, _, X28, e28, N28, fun t k => pre29 t (by
          rw [show (m4_22_0 p2 p3 p4 p5 p6 p7 x0 x1 x2) = (0 : Int32) from by first | (rw [m4_22_0, if_neg hc23, if_neg hc30]; done) | (simp only [m4_22_0, if_neg hc23, if_neg hc30]; done) | rfl] at k
          show Steps p.tables e below (T28.setTop (mkF m 136 #[.val (.ref a1), .val (.int p2), .val (.int p3), .val (.int p4), .val (.int p5), .val (.int p6), .val (.int p7), .val (.int (m4_12_0 p2 p3 p4 p5 p6 p7 x0 x1))] [(.int (((f5 (2 : Int32) p2 p3) + (f6 (2 : Int32) p4 p5)) + (f6 (2 : Int32) p6 p7))), (.int x2)])) _
          refine XS.icmpYes X28.here hx rfl (pc0 := 136) (pc' := 143) rfl (hb hby d4_136) rfl (feq hc30).2 (by decide) (by decide) ?_
          show Steps p.tables e below (T28.setTop (mkF m 143 #[.val (.ref a1), .val (.int p2), .val (.int p3), .val (.int p4), .val (.int p5), .val (.int p6), .val (.int p7), .val (.int (m4_12_0 p2 p3 p4 p5 p6 p7 x0 x1))] [])) _
          refine XS.iconst X28.here hx rfl (hb hby d4_143) ?_
          exact k)⟩
  have pre31 : ∀ t, Steps p.tables e below (T22.setTop (mkF m 148 #[.val (.ref a1), .val (.int p2), .val (.int p3), .val (.int p4), .val (.int p5), .val (.int p6), .val (.int p7), .val (.int (m4_22_0 p2 p3 p4 p5 p6 p7 x0 x1 x2))] [(.int (m4_22_0 p2 p3 p4 p5 p6 p7 x0 x1 x2))])) t → Steps p.tables e below (s₁.setTop (entryFrame m #[(.ref a1), (.int p2), (.int p3), (.int p4), (.int p5), (.int p6), (.int p7)] 8)) t := fun t k => pre22 t (by
    show Steps p.tables e below (T22.setTop (mkF m 144 #[.val (.ref a1), .val (.int p2), .val (.int p3), .val (.int p4), .val (.int p5), .val (.int p6), .val (.int p7), .val (.int (m4_12_0 p2 p3 p4 p5 p6 p7 x0 x1))] [(.int (m4_22_0 p2 p3 p4 p5 p6 p7 x0 x1 x2))])) _
    refine XS.istore X22.here hx rfl (hb hby d4_144) rfl (l' := #[.val (.ref a1), .val (.int p2), .val (.int p3), .val (.int p4), .val (.int p5), .val (.int p6), .val (.int p7), .val (.int (m4_22_0 p2 p3 p4 p5 p6 p7 x0 x1 x2))]) rfl ?_
    show Steps p.tables e below (T22.setTop (mkF m 146 #[.val (.ref a1), .val (.int p2), .val (.int p3), .val (.int p4), .val (.int p5), .val (.int p6), .val (.int p7), .val (.int (m4_22_0 p2 p3 p4 p5 p6 p7 x0 x1 x2))] [])) _
    refine XS.iload X22.here hx rfl (hb hby d4_146) rfl ?_
    exact k)
  obtain ⟨T32, locs32, X32, e32, N32, pre32⟩ : ∃ (T' : State) (locs' : List Loc), Stand p l e ({ frames := 2, cells := 0, slots := 0, locals := 30 } : Room) s m #[(.ref a1), (.int p2), (.int p3), (.int p4), (.int p5), (.int p6), (.int p7)] below meth c T' locs' 0 0 ∧ T'.heap = h0 ∧ Fr n0 locs' ∧ ∀ t, Steps p.tables e below (T'.setTop (mkF m 188 #[.val (.ref a1), .val (.int p2), .val (.int p3), .val (.int p4), .val (.int p5), .val (.int p6), .val (.int p7), .val (.int (m4_22_0 p2 p3 p4 p5 p6 p7 x0 x1 x2))] [(.int (m4_32_0 p2 p3 p4 p5 p6 p7 x0 x1 x2 x3))])) t → Steps p.tables e below (s₁.setTop (entryFrame m #[(.ref a1), (.int p2), (.int p3), (.int p4), (.int p5), (.int p6), (.int p7)] 8)) t := by
    by_cases hc33 : (m4_22_0 p2 p3 p4 p5 p6 p7 x0 x1 x2) = (0 : Int32)
    · exact ⟨_, _, X22, e22, N22, fun t k => pre31 t (by
        rw [show (m4_32_0 p2 p3 p4 p5 p6 p7 x0 x1 x2 x3) = (0 : Int32) from by first | (rw [m4_32_0, if_pos hc33]; done) | (simp only [m4_32_0, if_pos hc33]; done) | rfl] at k
        show Steps p.tables e below (T22.setTop (mkF m 148 #[.val (.ref a1), .val (.int p2), .val (.int p3), .val (.int p4), .val (.int p5), .val (.int p6), .val (.int p7), .val (.int (m4_22_0 p2 p3 p4 p5 p6 p7 x0 x1 x2))] [(.int (m4_22_0 p2 p3 p4 p5 p6 p7 x0 x1 x2))])) _
        refine XS.ifYes X22.here hx rfl (pc0 := 148) (pc' := 187) rfl (hb hby d4_148) rfl ((if0 _ _).trans (teq hc33).1) (by decide) (by decide) ?_
        show Steps p.tables e below (T22.setTop (mkF m 187 #[.val (.ref a1), .val (.int p2), .val (.int p3), .val (.int p4), .val (.int p5), .val (.int p6), .val (.int p7), .val (.int (m4_22_0 p2 p3 p4 p5 p6 p7 x0 x1 x2))] [])) _
        refine XS.iconst X22.here hx rfl (hb hby d4_187) ?_
        exact k)⟩
    · obtain ⟨T34, X34, e34, st34⟩ := getF X22 hx hZ hown (host := "") (Or.inl (hw _ (List.mem_of_getElem? (i := 40) rfl))) Via.refl e22 F_a1_residual (g := (mkF m 152 #[.val (.ref a1), .val (.int p2), .val (.int p3), .val (.int p4), .val (.int p5), .val (.int p6), .val (.int p7), .val (.int (m4_22_0 p2 p3 p4 p5 p6 p7 x0 x1 x2))] [(.ref a1)])) rfl rfl (hb hby d4_152)
      obtain ⟨cl35, A35, S35, Nl35, M35⟩ := id V_r
      have hin35 : ¬ ((3 : Int32) < 0 ∨ cl35.slots.size ≤ ((3 : Int32)).toNatClampNeg) := AV.inb S35 Nl35 ⟨by decide, by decide⟩
      have hat35 : cl35.slots[((3 : Int32)).toNatClampNeg]? = some (.int x3) := AV.at S35 rfl
      obtain ⟨_, _, ⟨T36, L36, k36, n36⟩, -, X36, ⟨Lc36, hQ36, l36, y36, z36⟩, st36⟩ := Jvm.LawKit.callS X34 hx (y := (⟨"com/example/hindsight/hindsight/solvers/ResidualNetworkPushPinLaw", "initial", "(III)I"⟩ : MethodName)) hown (mvT hZ (hw _ (List.mem_of_getElem? (i := 41) rfl))) (mvT hZ (hw _ (List.mem_of_getElem? (i := 42) rfl))) (mvT hZ (hw _ (List.mem_of_getElem? (i := 38) rfl))) (mvT hZ (hw _ (List.mem_of_getElem? (i := 43) rfl))) (by decide) (backOf (W := 1) (rm5 l Z a0 hw [] (3 : Int32) p2 p3 h0 n0 Z0) hZ (hw _ (List.mem_of_getElem? (i := 43) rfl)) (hw _ (List.mem_of_getElem? (i := 38) rfl)) (by decide) (by decide)) (g := (mkF m 160 #[.val (.ref a1), .val (.int p2), .val (.int p3), .val (.int p4), .val (.int p5), .val (.int p6), .val (.int p7), .val (.int (m4_22_0 p2 p3 p4 p5 p6 p7 x0 x1 x2))] [(.int p3), (.int p2), (.int (3 : Int32)), (.int x3)])) rfl (by rw [hml]; rfl) (argsL := [(.int (3 : Int32)), (.int p2), (.int p3)]) (rest := [(.int x3)]) (lenOf pd_1 rfl) rfl (by show 2 * 0 + _ ≤ _; exact Nat.le_of_eq rfl) (hb hby d4_160) (fun _ _ => ⟨rfl, e34, (by decide : 0 + 0 ≤ _), (by decide : 0 + 0 ≤ _)⟩)
      dsimp only [Pt.U, Pt.locs, Pt.cells, Pt.slots] at X36 l36 y36 z36 st36 hQ36
      subst l36 y36 z36
      obtain ⟨rfl, N36q, e36⟩ := hQ36
      have N36 := Fr.app N22 N36q
      obtain ⟨_, _, ⟨T37, L37, k37, n37⟩, -, X37, ⟨Lc37, hQ37, l37, y37, z37⟩, st37⟩ := Jvm.LawKit.callS X36 hx (y := (⟨"com/example/hindsight/hindsight/solvers/ResidualNetworkPushPinLaw", "delta", "(III)I"⟩ : MethodName)) hown (mvT hZ (hw _ (List.mem_of_getElem? (i := 44) rfl))) (mvT hZ (hw _ (List.mem_of_getElem? (i := 45) rfl))) (mvT hZ (hw _ (List.mem_of_getElem? (i := 38) rfl))) (mvT hZ (hw _ (List.mem_of_getElem? (i := 46) rfl))) (by decide) (backOf (W := 2) (rm6 l Z a0 hw [] (3 : Int32) p4 p5 h0 n0 Z0) hZ (hw _ (List.mem_of_getElem? (i := 46) rfl)) (hw _ (List.mem_of_getElem? (i := 38) rfl)) (by decide) (by decide)) (g := (mkF m 167 #[.val (.ref a1), .val (.int p2), .val (.int p3), .val (.int p4), .val (.int p5), .val (.int p6), .val (.int p7), .val (.int (m4_22_0 p2 p3 p4 p5 p6 p7 x0 x1 x2))] [(.int p5), (.int p4), (.int (3 : Int32)), (.int (f5 (3 : Int32) p2 p3)), (.int x3)])) rfl (by rw [hml]; rfl) (argsL := [(.int (3 : Int32)), (.int p4), (.int p5)]) (rest := [(.int (f5 (3 : Int32) p2 p3)), (.int x3)]) (lenOf pd_1 rfl) rfl (by show 2 * 0 + _ ≤ _; exact Nat.le_of_eq rfl) (hb hby d4_167) (fun _ _ => ⟨rfl, e36, (by decide : 0 + 0 ≤ _), (by decide : 0 + 0 ≤ _)⟩)
      dsimp only [Pt.U, Pt.locs, Pt.cells, Pt.slots] at X37 l37 y37 z37 st37 hQ37
      subst l37 y37 z37
      obtain ⟨rfl, N37q, e37⟩ := hQ37
      have N37 := Fr.app N36 N37q
      obtain ⟨_, _, ⟨T38, L38, k38, n38⟩, -, X38, ⟨Lc38, hQ38, l38, y38, z38⟩, st38⟩ := Jvm.LawKit.callS X37 hx (y := (⟨"com/example/hindsight/hindsight/solvers/ResidualNetworkPushPinLaw", "delta", "(III)I"⟩ : MethodName)) hown (mvT hZ (hw _ (List.mem_of_getElem? (i := 44) rfl))) (mvT hZ (hw _ (List.mem_of_getElem? (i := 45) rfl))) (mvT hZ (hw _ (List.mem_of_getElem? (i := 38) rfl))) (mvT hZ (hw _ (List.mem_of_getElem? (i := 46) rfl))) (by decide) (backOf (W := 2) (rm6 l Z a0 hw [] (3 : Int32) p6 p7 h0 n0 Z0) hZ (hw _ (List.mem_of_getElem? (i := 46) rfl)) (hw _ (List.mem_of_getElem? (i := 38) rfl)) (by decide) (by decide)) (g := (mkF m 176 #[.val (.ref a1), .val (.int p2), .val (.int p3), .val (.int p4), .val (.int p5), .val (.int p6), .val (.int p7), .val (.int (m4_22_0 p2 p3 p4 p5 p6 p7 x0 x1 x2))] [(.int p7), (.int p6), (.int (3 : Int32)), (.int ((f5 (3 : Int32) p2 p3) + (f6 (3 : Int32) p4 p5))), (.int x3)])) rfl (by rw [hml]; rfl) (argsL := [(.int (3 : Int32)), (.int p6), (.int p7)]) (rest := [(.int ((f5 (3 : Int32) p2 p3) + (f6 (3 : Int32) p4 p5))), (.int x3)]) (lenOf pd_1 rfl) rfl (by show 2 * 0 + _ ≤ _; exact Nat.le_of_eq rfl) (hb hby d4_176) (fun _ _ => ⟨rfl, e37, (by decide : 0 + 0 ≤ _), (by decide : 0 + 0 ≤ _)⟩)
      dsimp only [Pt.U, Pt.locs, Pt.cells, Pt.slots] at X38 l38 y38 z38 st38 hQ38
      subst l38 y38 z38
      obtain ⟨rfl, N38q, e38⟩ := hQ38
      have N38 := Fr.app N37 N38q
      have pre39 : ∀ t, Steps p.tables e below (T38.setTop (mkF m 180 #[.val (.ref a1), .val (.int p2), .val (.int p3), .val (.int p4), .val (.int p5), .val (.int p6), .val (.int p7), .val (.int (m4_22_0 p2 p3 p4 p5 p6 p7 x0 x1 x2))] [(.int (((f5 (3 : Int32) p2 p3) + (f6 (3 : Int32) p4 p5)) + (f6 (3 : Int32) p6 p7))), (.int x3)])) t → Steps p.tables e below (s₁.setTop (entryFrame m #[(.ref a1), (.int p2), (.int p3), (.int p4), (.int p5), (.int p6), (.int p7)] 8)) t := fun t k => pre31 t (by
        show Steps p.tables e below (T22.setTop (mkF m 148 #[.val (.ref a1), .val (.int p2), .val (.int p3), .val (.int p4), .val (.int p5), .val (.int p6), .val (.int p7), .val (.int (m4_22_0 p2 p3 p4 p5 p6 p7 x0 x1 x2))] [(.int (m4_22_0 p2 p3 p4 p5 p6 p7 x0 x1 x2))])) _
        refine XS.ifNo X22.here hx rfl (hb hby d4_148) rfl ((if0 _ _).trans (feq hc33).1) ?_
        show Steps p.tables e below (T22.setTop (mkF m 151 #[.val (.ref a1), .val (.int p2), .val (.int p3), .val (.int p4), .val (.int p5), .val (.int p6), .val (.int p7), .val (.int (m4_22_0 p2 p3 p4 p5 p6 p7 x0 x1 x2))] [])) _
        refine XS.aloadN X22.here hx rfl (hb hby d4_151) rfl rfl ?_
        show Steps p.tables e below (T22.setTop (mkF m 152 #[.val (.ref a1), .val (.int p2), .val (.int p3), .val (.int p4), .val (.int p5), .val (.int p6), .val (.int p7), .val (.int (m4_22_0 p2 p3 p4 p5 p6 p7 x0 x1 x2))] [(.ref a1)])) _
        refine st34 _ ?_
        show Steps p.tables e below (T34.setTop (mkF m 155 #[.val (.ref a1), .val (.int p2), .val (.int p3), .val (.int p4), .val (.int p5), .val (.int p6), .val (.int p7), .val (.int (m4_22_0 p2 p3 p4 p5 p6 p7 x0 x1 x2))] [(.ref r)])) _
        refine XS.iconst X34.here hx rfl (hb hby d4_155) ?_
        show Steps p.tables e below (T34.setTop (mkF m 156 #[.val (.ref a1), .val (.int p2), .val (.int p3), .val (.int p4), .val (.int p5), .val (.int p6), .val (.int p7), .val (.int (m4_22_0 p2 p3 p4 p5 p6 p7 x0 x1 x2))] [(.int (3 : Int32)), (.ref r)])) _
        refine X34.iaload hx (j := (3 : Int32)) (v := (.int x3)) (by rw [e34]; exact A35.1) (State.isArrayOf_alike hZ.alike A35.2.1) A35.2.2 hin35 hat35 (g := (mkF m 156 #[.val (.ref a1), .val (.int p2), .val (.int p3), .val (.int p4), .val (.int p5), .val (.int p6), .val (.int p7), .val (.int (m4_22_0 p2 p3 p4 p5 p6 p7 x0 x1 x2))] [(.int (3 : Int32)), (.ref r)])) rfl rfl (hb hby d4_156) _ ?_
        show Steps p.tables e below (T34.setTop (mkF m 157 #[.val (.ref a1), .val (.int p2), .val (.int p3), .val (.int p4), .val (.int p5), .val (.int p6), .val (.int p7), .val (.int (m4_22_0 p2 p3 p4 p5 p6 p7 x0 x1 x2))] [(.int x3)])) _
        refine XS.iconst X34.here hx rfl (hb hby d4_157) ?_
        show Steps p.tables e below (T34.setTop (mkF m 158 #[.val (.ref a1), .val (.int p2), .val (.int p3), .val (.int p4), .val (.int p5), .val (.int p6), .val (.int p7), .val (.int (m4_22_0 p2 p3 p4 p5 p6 p7 x0 x1 x2))] [(.int (3 : Int32)), (.int x3)])) _
        refine XS.iloadN X34.here hx rfl (hb hby d4_158) rfl ?_
        show Steps p.tables e below (T34.setTop (mkF m 159 #[.val (.ref a1), .val (.int p2), .val (.int p3), .val (.int p4), .val (.int p5), .val (.int p6), .val (.int p7), .val (.int (m4_22_0 p2 p3 p4 p5 p6 p7 x0 x1 x2))] [(.int p2), (.int (3 : Int32)), (.int x3)])) _
        refine XS.iloadN X34.here hx rfl (hb hby d4_159) rfl ?_
        show Steps p.tables e below (T34.setTop (mkF m 160 #[.val (.ref a1), .val (.int p2), .val (.int p3), .val (.int p4), .val (.int p5), .val (.int p6), .val (.int p7), .val (.int (m4_22_0 p2 p3 p4 p5 p6 p7 x0 x1 x2))] [(.int p3), (.int p2), (.int (3 : Int32)), (.int x3)])) _
        refine st36 _ ?_
        show Steps p.tables e below (T36.setTop (mkF m 163 #[.val (.ref a1), .val (.int p2), .val (.int p3), .val (.int p4), .val (.int p5), .val (.int p6), .val (.int p7), .val (.int (m4_22_0 p2 p3 p4 p5 p6 p7 x0 x1 x2))] [(.int (f5 (3 : Int32) p2 p3)), (.int x3)])) _
        refine XS.iconst X36.here hx rfl (hb hby d4_163) ?_
        show Steps p.tables e below (T36.setTop (mkF m 164 #[.val (.ref a1), .val (.int p2), .val (.int p3), .val (.int p4), .val (.int p5), .val (.int p6), .val (.int p7), .val (.int (m4_22_0 p2 p3 p4 p5 p6 p7 x0 x1 x2))] [(.int (3 : Int32)), (.int (f5 (3 : Int32) p2 p3)), (.int x3)])) _
        refine XS.iloadN X36.here hx rfl (hb hby d4_164) rfl ?_
        show Steps p.tables e below (T36.setTop (mkF m 165 #[.val (.ref a1), .val (.int p2), .val (.int p3), .val (.int p4), .val (.int p5), .val (.int p6), .val (.int p7), .val (.int (m4_22_0 p2 p3 p4 p5 p6 p7 x0 x1 x2))] [(.int p4), (.int (3 : Int32)), (.int (f5 (3 : Int32) p2 p3)), (.int x3)])) _
        refine XS.iload X36.here hx rfl (hb hby d4_165) rfl ?_
        show Steps p.tables e below (T36.setTop (mkF m 167 #[.val (.ref a1), .val (.int p2), .val (.int p3), .val (.int p4), .val (.int p5), .val (.int p6), .val (.int p7), .val (.int (m4_22_0 p2 p3 p4 p5 p6 p7 x0 x1 x2))] [(.int p5), (.int p4), (.int (3 : Int32)), (.int (f5 (3 : Int32) p2 p3)), (.int x3)])) _
        refine st37 _ ?_
        show Steps p.tables e below (T37.setTop (mkF m 170 #[.val (.ref a1), .val (.int p2), .val (.int p3), .val (.int p4), .val (.int p5), .val (.int p6), .val (.int p7), .val (.int (m4_22_0 p2 p3 p4 p5 p6 p7 x0 x1 x2))] [(.int (f6 (3 : Int32) p4 p5)), (.int (f5 (3 : Int32) p2 p3)), (.int x3)])) _
        refine XS.iadd X37.here hx rfl (hb hby d4_170) rfl ?_
        show Steps p.tables e below (T37.setTop (mkF m 171 #[.val (.ref a1), .val (.int p2), .val (.int p3), .val (.int p4), .val (.int p5), .val (.int p6), .val (.int p7), .val (.int (m4_22_0 p2 p3 p4 p5 p6 p7 x0 x1 x2))] [(.int ((f5 (3 : Int32) p2 p3) + (f6 (3 : Int32) p4 p5))), (.int x3)])) _
        refine XS.iconst X37.here hx rfl (hb hby d4_171) ?_
        show Steps p.tables e below (T37.setTop (mkF m 172 #[.val (.ref a1), .val (.int p2), .val (.int p3), .val (.int p4), .val (.int p5), .val (.int p6), .val (.int p7), .val (.int (m4_22_0 p2 p3 p4 p5 p6 p7 x0 x1 x2))] [(.int (3 : Int32)), (.int ((f5 (3 : Int32) p2 p3) + (f6 (3 : Int32) p4 p5))), (.int x3)])) _
        refine XS.iload X37.here hx rfl (hb hby d4_172) rfl ?_
        show Steps p.tables e below (T37.setTop (mkF m 174 #[.val (.ref a1), .val (.int p2), .val (.int p3), .val (.int p4), .val (.int p5), .val (.int p6), .val (.int p7), .val (.int (m4_22_0 p2 p3 p4 p5 p6 p7 x0 x1 x2))] [(.int p6), (.int (3 : Int32)), (.int ((f5 (3 : Int32) p2 p3) + (f6 (3 : Int32) p4 p5))), (.int x3)])) _
        refine XS.iload X37.here hx rfl (hb hby d4_174) rfl ?_
        show Steps p.tables e below (T37.setTop (mkF m 176 #[.val (.ref a1), .val (.int p2), .val (.int p3), .val (.int p4), .val (.int p5), .val (.int p6), .val (.int p7), .val (.int (m4_22_0 p2 p3 p4 p5 p6 p7 x0 x1 x2))] [(.int p7), (.int p6), (.int (3 : Int32)), (.int ((f5 (3 : Int32) p2 p3) + (f6 (3 : Int32) p4 p5))), (.int x3)])) _
        refine st38 _ ?_
        show Steps p.tables e below (T38.setTop (mkF m 179 #[.val (.ref a1), .val (.int p2), .val (.int p3), .val (.int p4), .val (.int p5), .val (.int p6), .val (.int p7), .val (.int (m4_22_0 p2 p3 p4 p5 p6 p7 x0 x1 x2))] [(.int (f6 (3 : Int32) p6 p7)), (.int ((f5 (3 : Int32) p2 p3) + (f6 (3 : Int32) p4 p5))), (.int x3)])) _
        refine XS.iadd X38.here hx rfl (hb hby d4_179) rfl ?_
        exact k)
      by_cases hc40 : x3 = (((f5 (3 : Int32) p2 p3) + (f6 (3 : Int32) p4 p5)) + (f6 (3 : Int32) p6 p7))
      · exact ⟨_, _, X38, e38, N38, fun t k => pre39 t (by
          rw [show (m4_32_0 p2 p3 p4 p5 p6 p7 x0 x1 x2 x3) = (1 : Int32) from by first | (rw [m4_32_0, if_neg hc33, if_pos hc40]; done) | (simp only [m4_32_0, if_neg hc33, if_pos hc40]; done) | rfl] at k
          show Steps p.tables e below (T38.setTop (mkF m 180 #[.val (.ref a1), .val (.int p2), .val (.int p3), .val (.int p4), .val (.int p5), .val (.int p6), .val (.int p7), .val (.int (m4_22_0 p2 p3 p4 p5 p6 p7 x0 x1 x2))] [(.int (((f5 (3 : Int32) p2 p3) + (f6 (3 : Int32) p4 p5)) + (f6 (3 : Int32) p6 p7))), (.int x3)])) _
          refine XS.icmpNo X38.here hx rfl (hb hby d4_180) rfl (teq hc40).2 ?_
          show Steps p.tables e below (T38.setTop (mkF m 183 #[.val (.ref a1), .val (.int p2), .val (.int p3), .val (.int p4), .val (.int p5), .val (.int p6), .val (.int p7), .val (.int (m4_22_0 p2 p3 p4 p5 p6 p7 x0 x1 x2))] [])) _
          refine XS.iconst X38.here hx rfl (hb hby d4_183) ?_
          show Steps p.tables e below (T38.setTop (mkF m 184 #[.val (.ref a1), .val (.int p2), .val (.int p3), .val (.int p4), .val (.int p5), .val (.int p6), .val (.int p7), .val (.int (m4_22_0 p2 p3 p4 p5 p6 p7 x0 x1 x2))] [(.int (1 : Int32))])) _
          refine XS.goto X38.here hx rfl (pc0 := 184) (pc' := 188) rfl (hb hby d4_184) (by decide) (by decide) ?_
          exact k)⟩
      · exact ⟨_, _, X38, e38, N38, fun t k => pre39 t (by
          rw [show (m4_32_0 p2 p3 p4 p5 p6 p7 x0 x1 x2 x3) = (0 : Int32) from by first | (rw [m4_32_0, if_neg hc33, if_neg hc40]; done) | (simp only [m4_32_0, if_neg hc33, if_neg hc40]; done) | rfl] at k
          show Steps p.tables e below (T38.setTop (mkF m 180 #[.val (.ref a1), .val (.int p2), .val (.int p3), .val (.int p4), .val (.int p5), .val (.int p6), .val (.int p7), .val (.int (m4_22_0 p2 p3 p4 p5 p6 p7 x0 x1 x2))] [(.int (((f5 (3 : Int32) p2 p3) + (f6 (3 : Int32) p4 p5)) + (f6 (3 : Int32) p6 p7))), (.int x3)])) _
          refine XS.icmpYes X38.here hx rfl (pc0 := 180) (pc' := 187) rfl (hb hby d4_180) rfl (feq hc40).2 (by decide) (by decide) ?_
          show Steps p.tables e below (T38.setTop (mkF m 187 #[.val (.ref a1), .val (.int p2), .val (.int p3), .val (.int p4), .val (.int p5), .val (.int p6), .val (.int p7), .val (.int (m4_22_0 p2 p3 p4 p5 p6 p7 x0 x1 x2))] [])) _
          refine XS.iconst X38.here hx rfl (hb hby d4_187) ?_
          exact k)⟩
  obtain ⟨fs, hr, hrun, hended, hW, hsame⟩ := X32.leave (v := some (.int (nar .boolean (m4_32_0 p2 p3 p4 p5 p6 p7 x0 x1 x2 x3)))) (fun h => by rw [Bd.returns] at h; cases h)
  refine ⟨_, _, pre32 _ ?_, hrun, hended, _, _, rfl, ?_, ⟨_, rfl⟩, hW, hsame.mono (by decide) (by decide)⟩
  · show Steps p.tables e below (T32.setTop (mkF m 188 #[.val (.ref a1), .val (.int p2), .val (.int p3), .val (.int p4), .val (.int p5), .val (.int p6), .val (.int p7), .val (.int (m4_22_0 p2 p3 p4 p5 p6 p7 x0 x1 x2))] [(.int (m4_32_0 p2 p3 p4 p5 p6 p7 x0 x1 x2 x3))])) _
    refine XS.istore X32.here hx rfl (hb hby d4_188) rfl (l' := #[.val (.ref a1), .val (.int p2), .val (.int p3), .val (.int p4), .val (.int p5), .val (.int p6), .val (.int p7), .val (.int (m4_32_0 p2 p3 p4 p5 p6 p7 x0 x1 x2 x3))]) rfl ?_
    show Steps p.tables e below (T32.setTop (mkF m 190 #[.val (.ref a1), .val (.int p2), .val (.int p3), .val (.int p4), .val (.int p5), .val (.int p6), .val (.int p7), .val (.int (m4_32_0 p2 p3 p4 p5 p6 p7 x0 x1 x2 x3))] [])) _
    refine XS.iload X32.here hx rfl (hb hby d4_190) rfl ?_
    show Steps p.tables e below (T32.setTop (mkF m 192 #[.val (.ref a1), .val (.int p2), .val (.int p3), .val (.int p4), .val (.int p5), .val (.int p6), .val (.int p7), .val (.int (m4_32_0 p2 p3 p4 p5 p6 p7 x0 x1 x2 x3))] [(.int (m4_32_0 p2 p3 p4 p5 p6 p7 x0 x1 x2 x3))])) _
    exact retN X32 hx (t := .boolean) Bd.returns (by simp) (hb hby d4_192) hr
  · show Q4 Z a1 p2 p3 p4 p5 p6 p7 r x0 x1 x2 x3 h0 n0 _ T32.heap _
    rw [e32]
    exact ⟨by rw [show (f4 p2 p3 p4 p5 p6 p7 x0 x1 x2 x3) = (nar .boolean (m4_32_0 p2 p3 p4 p5 p6 p7 x0 x1 x2 x3)) from by first | (rw [f4]; done) | (simp only [f4]; done) | rfl], N32, rfl⟩
theorem pd_2 : parseMethodDescriptor "(I[I[I[I[JI)V" = some ⟨[.int, (.array .int), (.array .int), (.array .int), (.array .long), .int], none⟩ := by decide +kernel
theorem pd_3 : parseMethodDescriptor "(II)V" = some ⟨[.int, .int], none⟩ := by decide +kernel
theorem pd_4 : parseMethodDescriptor "(Lcom/example/hindsight/hindsight/solvers/ResidualNetwork;IIIIII)Z" = some ⟨[(.object "com/example/hindsight/hindsight/solvers/ResidualNetwork"), .int, .int, .int, .int, .int, .int], some .boolean⟩ := by decide +kernel
def f0 (p1 : Int32) (p2 : Int32) (p3 : Int32) (p4 : Int32) (p5 : Int32) : Int32 := if (f4 p1 p2 (p3 &&& (3 : Int32)) p4 (((p3.toUInt32 >>> ((2 : Int32) &&& 31).toUInt32).toInt32) &&& (3 : Int32)) (0 : Int32) (psh (0 : Int32) (p3 &&& (3 : Int32)) p4 p1) (psh (1 : Int32) (p3 &&& (3 : Int32)) p4 (0 : Int32)) (psh (2 : Int32) (p3 &&& (3 : Int32)) p4 (0 : Int32)) (psh (3 : Int32) (p3 &&& (3 : Int32)) p4 p2)) = (0 : Int32) then (0 : Int32) else if (f4 p1 p2 (p3 &&& (3 : Int32)) p4 (((p3.toUInt32 >>> ((2 : Int32) &&& 31).toUInt32).toInt32) &&& (3 : Int32)) p5 (psh (0 : Int32) (((p3.toUInt32 >>> ((2 : Int32) &&& 31).toUInt32).toInt32) &&& (3 : Int32)) p5 (psh (0 : Int32) (p3 &&& (3 : Int32)) p4 p1)) (psh (1 : Int32) (((p3.toUInt32 >>> ((2 : Int32) &&& 31).toUInt32).toInt32) &&& (3 : Int32)) p5 (psh (1 : Int32) (p3 &&& (3 : Int32)) p4 (0 : Int32))) (psh (2 : Int32) (((p3.toUInt32 >>> ((2 : Int32) &&& 31).toUInt32).toInt32) &&& (3 : Int32)) p5 (psh (2 : Int32) (p3 &&& (3 : Int32)) p4 (0 : Int32))) (psh (3 : Int32) (((p3.toUInt32 >>> ((2 : Int32) &&& 31).toUInt32).toInt32) &&& (3 : Int32)) p5 (psh (3 : Int32) (p3 &&& (3 : Int32)) p4 p2))) = (0 : Int32) then (0 : Int32) else (1 : Int32)
theorem ef_0 (m : MethodId) (x0 : Int32) (x1 : Int32) (x2 : Int32) (x3 : Int32) (x4 : Int32) : entryFrame m #[(.int x0), (.int x1), (.int x2), (.int x3), (.int x4)] maxLocals = mkF m 0 #[.val (.int x0), .val (.int x1), .val (.int x2), .val (.int x3), .val (.int x4), .unset, .unset, .unset, .unset, .unset, .unset, .unset, .unset, .unset] [] := by first | (simp [entryFrame, mkF, argsToLocals, Value.category, maxLocals]; done) | rfl
def Q0 (Z : State) (p1 : Int32) (p2 : Int32) (p3 : Int32) (p4 : Int32) (p5 : Int32) (h0 : Heap) (n0 : Nat) (v : Option Value) (h : Heap) (L : List Loc) : Prop := v = some (.int (f0 p1 p2 p3 p4 p5)) ∧ Fr n0 L
set_option maxRecDepth 65536 in
set_option maxHeartbeats 40000000 in
theorem rm0 (l : Launch) (Z : State) (a0 : Array Value) (hw : ∀ d ∈ tables_1, d.before a0 Z = true) (ws : List Jvm.Cond) (p1 : Int32) (p2 : Int32) (p3 : Int32) (p4 : Int32) (p5 : Int32) (h0 : Heap) (n0 : Nat) (Z0 : n0 ≤ h0.size) :
    MetFree l x (head1 (Jvm.Cond.code x code maxLocals ret :: ws) room_1) (fun a U => a = #[(.int p1), (.int p2), (.int p3), (.int p4), (.int p5)] ∧ Z.Warmed39 U.vm ∧ U.heap = h0) (fun _ _ _ _ _ => True) (fun _ U o U' => ∃ v L, o = .returned v ∧ Q0 Z p1 p2 p3 p4 p5 h0 n0 v U'.heap L ∧ FrameEnd U o U' L room_1.cells room_1.slots) := by
  refine MetFree.of_bodySF (plainFor_of_name pn_1) hisR ?_
  intro p e s m args below meth c s₁ Bd hml0 hP hK
  obtain ⟨rfl, hZ, hh⟩ := hP
  have hx := Bd.exec
  have hby := Bd.bytes
  have hml : c.maxLocals = 14 := hml0
  have hown : s.vm.findClass "com/example/hindsight/hindsight/solvers/ResidualNetworkPushPinLaw" = some m.cls := findClass_of_methodNamed Bd.named
  have hnm := (name_of_methodNamed Bd.named Bd.method).1
  have X0 : Stand p l e room_1 s m #[(.int p1), (.int p2), (.int p3), (.int p4), (.int p5)] below meth c s₁ [] 0 0 := Stand.of_body Bd
  have e0 : s₁.heap = h0 := by rw [← hh, Bd.state]; rfl
  have N0 := Fr.nil n0
  have pre0 : ∀ t, Steps p.tables e below (s₁.setTop (mkF m 0 #[.val (.int p1), .val (.int p2), .val (.int p3), .val (.int p4), .val (.int p5), .unset, .unset, .unset, .unset, .unset, .unset, .unset, .unset, .unset] [])) t → Steps p.tables e below (s₁.setTop (entryFrame m #[(.int p1), (.int p2), (.int p3), (.int p4), (.int p5)] maxLocals)) t := fun t k => castTop (ef_0 m p1 p2 p3 p4 p5) k
  obtain ⟨T1, h1, k1, X1, e1, E1, A1, st1⟩ := newP X0 hx hZ (hw _ (List.mem_of_getElem? (i := 0) rfl)) e0 (g := (mkF m 1 #[.val (.int p1), .val (.int p2), .val (.int p3), .val (.int p4), .val (.int p5), .unset, .unset, .unset, .unset, .unset, .unset, .unset, .unset, .unset] [(.int (2 : Int32))])) rfl (hb hby at_1) rfl (by decide) (cap := 2) (by decide) (by decide) (by decide) (by decide)
  obtain ⟨b1, g1⟩ : ∃ z, z = h0.size := ⟨_, rfl⟩
  rw [← g1] at A1 st1
  have g_b1 : n0 ≤ b1 := Nat.le_trans Z0 (Nat.le_of_eq g1.symm)
  have sz_b1 : h0.size ≤ b1 := Nat.le_trans (Keep.refl h0 []).1 (Nat.le_of_eq g1.symm)
  have K1 : Keep h0 h1 [] := (Keep.refl h0 []).ext E1
  have V_b1 : AV Z h1 b1 .int (2 : Int32) [(.int (0 : Int32)), (.int (0 : Int32))] := AV.new A1 (by decide)
  obtain ⟨cl2, A2, S2, Nl2, M2⟩ := id V_b1
  have hin2 : ¬ ((0 : Int32) < 0 ∨ cl2.slots.size ≤ ((0 : Int32)).toNatClampNeg) := AV.inb S2 Nl2 ⟨by decide, by decide⟩
  obtain ⟨T2, h2, X2, e2, W2, st2⟩ := stI X1 hx hZ e1 A2 (j := (0 : Int32)) hin2 (g := (mkF m 6 #[.val (.int p1), .val (.int p2), .val (.int p3), .val (.int p4), .val (.int p5), .unset, .unset, .unset, .unset, .unset, .unset, .unset, .unset, .unset] [(.int (0 : Int32)), (.int (0 : Int32)), (.ref b1), (.ref b1)])) rfl rfl (hb hby at_6)
  have V2 : AV Z h2 b1 .int (2 : Int32) [(.int (0 : Int32)), (.int (0 : Int32))] := AV.set A2 S2 Nl2 M2 W2
  have K2 : Keep h0 h2 [] := K1.wr W2 (Or.inr sz_b1)
  have N2 := Fr.snoc X2 N0 g_b1
  obtain ⟨cl3, A3, S3, Nl3, M3⟩ := id V2
  have hin3 : ¬ ((1 : Int32) < 0 ∨ cl3.slots.size ≤ ((1 : Int32)).toNatClampNeg) := AV.inb S3 Nl3 ⟨by decide, by decide⟩
  obtain ⟨T3, h3, X3, e3, W3, st3⟩ := stI X2 hx hZ e2 A3 (j := (1 : Int32)) hin3 (g := (mkF m 10 #[.val (.int p1), .val (.int p2), .val (.int p3), .val (.int p4), .val (.int p5), .unset, .unset, .unset, .unset, .unset, .unset, .unset, .unset, .unset] [(.int (1 : Int32)), (.int (1 : Int32)), (.ref b1), (.ref b1)])) rfl rfl (hb hby at_10)
  have V3 : AV Z h3 b1 .int (2 : Int32) [(.int (0 : Int32)), (.int (1 : Int32))] := AV.set A3 S3 Nl3 M3 W3
  have K3 : Keep h0 h3 [] := K2.wr W3 (Or.inr sz_b1)
  have N3 := Fr.snoc X3 N2 g_b1
  obtain ⟨T4, h4, k4, X4, e4, E4, A4, st4⟩ := newP X3 hx hZ (hw _ (List.mem_of_getElem? (i := 0) rfl)) e3 (g := (mkF m 14 #[.val (.int p1), .val (.int p2), .val (.int p3), .val (.int p4), .val (.int p5), .val (.ref b1), .unset, .unset, .unset, .unset, .unset, .unset, .unset, .unset] [(.int (2 : Int32))])) rfl (hb hby at_14) rfl (by decide) (cap := 2) (by decide) (by decide) (by decide) (by decide)
  obtain ⟨b4, g4⟩ : ∃ z, z = h3.size := ⟨_, rfl⟩
  rw [← g4] at A4 st4
  have ne5 : b1 ≠ b4 := Nat.ne_of_lt (Nat.lt_of_lt_of_le V3.lt (Nat.le_of_eq g4.symm))
  have g_b4 : n0 ≤ b4 := Nat.le_trans (Nat.le_trans Z0 K3.1) (Nat.le_of_eq g4.symm)
  have sz_b4 : h0.size ≤ b4 := Nat.le_trans K3.1 (Nat.le_of_eq g4.symm)
  have K4 : Keep h0 h4 [] := K3.ext E4
  have V_b4 : AV Z h4 b4 .int (2 : Int32) [(.int (0 : Int32)), (.int (0 : Int32))] := AV.new A4 (by decide)
  obtain ⟨cl6, A6, S6, Nl6, M6⟩ := id V_b4
  have hin6 : ¬ ((0 : Int32) < 0 ∨ cl6.slots.size ≤ ((0 : Int32)).toNatClampNeg) := AV.inb S6 Nl6 ⟨by decide, by decide⟩
  obtain ⟨T6, h6, X6, e6, W6, st6⟩ := stI X4 hx hZ e4 A6 (j := (0 : Int32)) hin6 (g := (mkF m 19 #[.val (.int p1), .val (.int p2), .val (.int p3), .val (.int p4), .val (.int p5), .val (.ref b1), .unset, .unset, .unset, .unset, .unset, .unset, .unset, .unset] [(.int (1 : Int32)), (.int (0 : Int32)), (.ref b4), (.ref b4)])) rfl rfl (hb hby at_19)
  have V6 : AV Z h6 b4 .int (2 : Int32) [(.int (1 : Int32)), (.int (0 : Int32))] := AV.set A6 S6 Nl6 M6 W6
  have K6 : Keep h0 h6 [] := K4.wr W6 (Or.inr sz_b4)
  have N6 := Fr.snoc X6 N3 g_b4
  obtain ⟨cl7, A7, S7, Nl7, M7⟩ := id V6
  have hin7 : ¬ ((1 : Int32) < 0 ∨ cl7.slots.size ≤ ((1 : Int32)).toNatClampNeg) := AV.inb S7 Nl7 ⟨by decide, by decide⟩
  obtain ⟨T7, h7, X7, e7, W7, st7⟩ := stI X6 hx hZ e6 A7 (j := (1 : Int32)) hin7 (g := (mkF m 23 #[.val (.int p1), .val (.int p2), .val (.int p3), .val (.int p4), .val (.int p5), .val (.ref b1), .unset, .unset, .unset, .unset, .unset, .unset, .unset, .unset] [(.int (0 : Int32)), (.int (1 : Int32)), (.ref b4), (.ref b4)])) rfl rfl (hb hby at_23)
  have V7 : AV Z h7 b4 .int (2 : Int32) [(.int (1 : Int32)), (.int (0 : Int32))] := AV.set A7 S7 Nl7 M7 W7
  have K7 : Keep h0 h7 [] := K6.wr W7 (Or.inr sz_b4)
  have N7 := Fr.snoc X7 N6 g_b4
  obtain ⟨T8, h8, k8, X8, e8, E8, A8, st8⟩ := newP X7 hx hZ (hw _ (List.mem_of_getElem? (i := 0) rfl)) e7 (g := (mkF m 27 #[.val (.int p1), .val (.int p2), .val (.int p3), .val (.int p4), .val (.int p5), .val (.ref b1), .val (.ref b4), .unset, .unset, .unset, .unset, .unset, .unset, .unset] [(.int (2 : Int32))])) rfl (hb hby at_27) rfl (by decide) (cap := 2) (by decide) (by decide) (by decide) (by decide)
  obtain ⟨b8, g8⟩ : ∃ z, z = h7.size := ⟨_, rfl⟩
  rw [← g8] at A8 st8
  have F9 := (((V3.ext E4).other W6 ne5).other W7 ne5)
  have ne10 : b1 ≠ b8 := Nat.ne_of_lt (Nat.lt_of_lt_of_le F9.lt (Nat.le_of_eq g8.symm))
  have ne11 : b4 ≠ b8 := Nat.ne_of_lt (Nat.lt_of_lt_of_le V7.lt (Nat.le_of_eq g8.symm))
  have g_b8 : n0 ≤ b8 := Nat.le_trans (Nat.le_trans Z0 K7.1) (Nat.le_of_eq g8.symm)
  have sz_b8 : h0.size ≤ b8 := Nat.le_trans K7.1 (Nat.le_of_eq g8.symm)
  have K8 : Keep h0 h8 [] := K7.ext E8
  have V_b8 : AV Z h8 b8 .int (2 : Int32) [(.int (0 : Int32)), (.int (0 : Int32))] := AV.new A8 (by decide)
  obtain ⟨cl12, A12, S12, Nl12, M12⟩ := id V_b8
  have hin12 : ¬ ((0 : Int32) < 0 ∨ cl12.slots.size ≤ ((0 : Int32)).toNatClampNeg) := AV.inb S12 Nl12 ⟨by decide, by decide⟩
  obtain ⟨T12, h12, X12, e12, W12, st12⟩ := stI X8 hx hZ e8 A12 (j := (0 : Int32)) hin12 (g := (mkF m 32 #[.val (.int p1), .val (.int p2), .val (.int p3), .val (.int p4), .val (.int p5), .val (.ref b1), .val (.ref b4), .unset, .unset, .unset, .unset, .unset, .unset, .unset] [(.int p1), (.int (0 : Int32)), (.ref b8), (.ref b8)])) rfl rfl (hb hby at_32)
  have V12 : AV Z h12 b8 .int (2 : Int32) [(.int p1), (.int (0 : Int32))] := AV.set A12 S12 Nl12 M12 W12
  have K12 : Keep h0 h12 [] := K8.wr W12 (Or.inr sz_b8)
  have N12 := Fr.snoc X12 N7 g_b8
  obtain ⟨cl13, A13, S13, Nl13, M13⟩ := id V12
  have hin13 : ¬ ((1 : Int32) < 0 ∨ cl13.slots.size ≤ ((1 : Int32)).toNatClampNeg) := AV.inb S13 Nl13 ⟨by decide, by decide⟩
  obtain ⟨T13, h13, X13, e13, W13, st13⟩ := stI X12 hx hZ e12 A13 (j := (1 : Int32)) hin13 (g := (mkF m 36 #[.val (.int p1), .val (.int p2), .val (.int p3), .val (.int p4), .val (.int p5), .val (.ref b1), .val (.ref b4), .unset, .unset, .unset, .unset, .unset, .unset, .unset] [(.int p2), (.int (1 : Int32)), (.ref b8), (.ref b8)])) rfl rfl (hb hby at_36)
  have V13 : AV Z h13 b8 .int (2 : Int32) [(.int p1), (.int p2)] := AV.set A13 S13 Nl13 M13 W13
  have K13 : Keep h0 h13 [] := K12.wr W13 (Or.inr sz_b8)
  have N13 := Fr.snoc X13 N12 g_b8
  obtain ⟨T14, h14, k14, X14, e14, E14, A14, st14⟩ := newP X13 hx hZ (hw _ (List.mem_of_getElem? (i := 1) rfl)) e13 (g := (mkF m 40 #[.val (.int p1), .val (.int p2), .val (.int p3), .val (.int p4), .val (.int p5), .val (.ref b1), .val (.ref b4), .val (.ref b8), .unset, .unset, .unset, .unset, .unset, .unset] [(.int (2 : Int32))])) rfl (hb hby at_40) rfl (by decide) (cap := 2) (by decide) (by decide) (by decide) (by decide)
  obtain ⟨b14, g14⟩ : ∃ z, z = h13.size := ⟨_, rfl⟩
  rw [← g14] at A14 st14
  have F15 := (((F9.ext E8).other W12 ne10).other W13 ne10)
  have ne16 : b1 ≠ b14 := Nat.ne_of_lt (Nat.lt_of_lt_of_le F15.lt (Nat.le_of_eq g14.symm))
  have F17 := (((V7.ext E8).other W12 ne11).other W13 ne11)
  have ne18 : b4 ≠ b14 := Nat.ne_of_lt (Nat.lt_of_lt_of_le F17.lt (Nat.le_of_eq g14.symm))
  have ne19 : b8 ≠ b14 := Nat.ne_of_lt (Nat.lt_of_lt_of_le V13.lt (Nat.le_of_eq g14.symm))
  have g_b14 : n0 ≤ b14 := Nat.le_trans (Nat.le_trans Z0 K13.1) (Nat.le_of_eq g14.symm)
  have sz_b14 : h0.size ≤ b14 := Nat.le_trans K13.1 (Nat.le_of_eq g14.symm)
  have K14 : Keep h0 h14 [] := K13.ext E14
  have V_b14 : AV Z h14 b14 .long (2 : Int32) [(.long (0 : Int64)), (.long (0 : Int64))] := AV.new A14 (by decide)
  obtain ⟨cl20, A20, S20, Nl20, M20⟩ := id V_b14
  have hin20 : ¬ ((0 : Int32) < 0 ∨ cl20.slots.size ≤ ((0 : Int32)).toNatClampNeg) := AV.inb S20 Nl20 ⟨by decide, by decide⟩
  obtain ⟨T20, h20, X20, e20, W20, st20⟩ := stJ X14 hx hZ e14 A20 (j := (0 : Int32)) hin20 (g := (mkF m 47 #[.val (.int p1), .val (.int p2), .val (.int p3), .val (.int p4), .val (.int p5), .val (.ref b1), .val (.ref b4), .val (.ref b8), .unset, .unset, .unset, .unset, .unset, .unset] [(.long (5 : Int64)), (.int (0 : Int32)), (.ref b14), (.ref b14)])) rfl rfl (hb hby at_47)
  have V20 : AV Z h20 b14 .long (2 : Int32) [(.long (5 : Int64)), (.long (0 : Int64))] := AV.set A20 S20 Nl20 M20 W20
  have K20 : Keep h0 h20 [] := K14.wr W20 (Or.inr sz_b14)
  have N20 := Fr.snoc X20 N13 g_b14
  obtain ⟨cl21, A21, S21, Nl21, M21⟩ := id V20
  have hin21 : ¬ ((1 : Int32) < 0 ∨ cl21.slots.size ≤ ((1 : Int32)).toNatClampNeg) := AV.inb S21 Nl21 ⟨by decide, by decide⟩
  obtain ⟨T21, h21, X21, e21, W21, st21⟩ := stJ X20 hx hZ e20 A21 (j := (1 : Int32)) hin21 (g := (mkF m 53 #[.val (.int p1), .val (.int p2), .val (.int p3), .val (.int p4), .val (.int p5), .val (.ref b1), .val (.ref b4), .val (.ref b8), .unset, .unset, .unset, .unset, .unset, .unset] [(.long (-7 : Int64)), (.int (1 : Int32)), (.ref b14), (.ref b14)])) rfl rfl (hb hby at_53)
  have V21 : AV Z h21 b14 .long (2 : Int32) [(.long (5 : Int64)), (.long (-7 : Int64))] := AV.set A21 S21 Nl21 M21 W21
  have K21 : Keep h0 h21 [] := K20.wr W21 (Or.inr sz_b14)
  have N21 := Fr.snoc X21 N20 g_b14
  obtain ⟨T22, h22, X22, e22, E22, A22, D22, -, st22⟩ := newO X21 hx hZ hown (hw _ (List.mem_of_getElem? (i := 4) rfl)) (hw _ (List.mem_of_getElem? (i := 5) rfl)) (hw _ (List.mem_of_getElem? (i := 6) rfl)) e21 (g := (mkF m 56 #[.val (.int p1), .val (.int p2), .val (.int p3), .val (.int p4), .val (.int p5), .val (.ref b1), .val (.ref b4), .val (.ref b8), .val (.ref b14), .unset, .unset, .unset, .unset, .unset] [])) rfl (hb hby at_56) (by decide) (by decide)
  obtain ⟨b22, g22⟩ : ∃ z, z = h21.size := ⟨_, rfl⟩
  rw [← g22] at A22 D22 st22
  have F23 := (((F15.ext E14).other W20 ne16).other W21 ne16)
  have ne24 : b1 ≠ b22 := Nat.ne_of_lt (Nat.lt_of_lt_of_le F23.lt (Nat.le_of_eq g22.symm))
  have F25 := (((F17.ext E14).other W20 ne18).other W21 ne18)
  have ne26 : b4 ≠ b22 := Nat.ne_of_lt (Nat.lt_of_lt_of_le F25.lt (Nat.le_of_eq g22.symm))
  have F27 := (((V13.ext E14).other W20 ne19).other W21 ne19)
  have ne28 : b8 ≠ b22 := Nat.ne_of_lt (Nat.lt_of_lt_of_le F27.lt (Nat.le_of_eq g22.symm))
  have ne29 : b14 ≠ b22 := Nat.ne_of_lt (Nat.lt_of_lt_of_le V21.lt (Nat.le_of_eq g22.symm))
  have g_b22 : n0 ≤ b22 := Nat.le_trans (Nat.le_trans Z0 K21.1) (Nat.le_of_eq g22.symm)
  have sz_b22 : h0.size ≤ b22 := Nat.le_trans K21.1 (Nat.le_of_eq g22.symm)
  have K22 : Keep h0 h22 [] := K21.ext E22
  have F_b22_nodes : Fld Z h22 b22 "com/example/hindsight/hindsight/solvers/ResidualNetwork" "nodes" "I" (.int (0 : Int32)) := D22 (Or.inr (hw _ (List.mem_of_getElem? (i := 14) rfl))) (ty := .int) (by decide)
  have F_b22_firstArc : Fld Z h22 b22 "com/example/hindsight/hindsight/solvers/ResidualNetwork" "firstArc" "[I" .null := D22 (Or.inr (hw _ (List.mem_of_getElem? (i := 16) rfl))) (ty := (.array .int)) (by decide)
  have F_b22_head : Fld Z h22 b22 "com/example/hindsight/hindsight/solvers/ResidualNetwork" "head" "[I" .null := D22 (Or.inr (hw _ (List.mem_of_getElem? (i := 18) rfl))) (ty := (.array .int)) (by decide)
  have F_b22_mate : Fld Z h22 b22 "com/example/hindsight/hindsight/solvers/ResidualNetwork" "mate" "[I" .null := D22 (Or.inr (hw _ (List.mem_of_getElem? (i := 20) rfl))) (ty := (.array .int)) (by decide)
  have F_b22_residual : Fld Z h22 b22 "com/example/hindsight/hindsight/solvers/ResidualNetwork" "residual" "[I" .null := D22 (Or.inr (hw _ (List.mem_of_getElem? (i := 22) rfl))) (ty := (.array .int)) (by decide)
  have F_b22_cost : Fld Z h22 b22 "com/example/hindsight/hindsight/solvers/ResidualNetwork" "cost" "[J" .null := D22 (Or.inr (hw _ (List.mem_of_getElem? (i := 24) rfl))) (ty := (.array .long)) (by decide)
  have F_b22_edgeArc : Fld Z h22 b22 "com/example/hindsight/hindsight/solvers/ResidualNetwork" "edgeArc" "[I" .null := D22 (Or.inr (hw _ (List.mem_of_getElem? (i := 26) rfl))) (ty := (.array .int)) (by decide)
  have F30 := (F23.ext E22)
  have F31 := (F25.ext E22)
  have F32 := (F27.ext E22)
  have F33 := (V21.ext E22)
  obtain ⟨_, _, ⟨T34, L34, k34, n34⟩, -, X34, ⟨Lc34, hQ34, l34, y34, z34⟩, st34⟩ := X22.specialBack hx (y := (⟨"com/example/hindsight/hindsight/solvers/ResidualNetwork", "<init>", "(I[I[I[I[JI)V"⟩ : MethodName)) rfl hown (mvT hZ (hw _ (List.mem_of_getElem? (i := 7) rfl))) (mvT hZ (hw _ (List.mem_of_getElem? (i := 8) rfl))) (mvT hZ (hw _ (List.mem_of_getElem? (i := 9) rfl))) (by decide) (backOf (W := 1) (rm1 l Z a0 hw [] b22 b1 b4 b8 b14 p1 p2 h22 n0 (Nat.le_trans Z0 K22.1) A22 g_b22 F_b22_nodes F_b22_firstArc F_b22_head F_b22_mate F_b22_residual F_b22_cost F_b22_edgeArc F30 F31 F32 F33 (Ne.symm ne24) (Ne.symm ne26) (Ne.symm ne28) (Ne.symm ne29)) hZ (hw _ (List.mem_of_getElem? (i := 9) rfl)) (hw _ (List.mem_of_getElem? (i := 6) rfl)) (by decide) (by decide)) (g := (mkF m 70 #[.val (.int p1), .val (.int p2), .val (.int p3), .val (.int p4), .val (.int p5), .val (.ref b1), .val (.ref b4), .val (.ref b8), .val (.ref b14), .unset, .unset, .unset, .unset, .unset] [(.int (2 : Int32)), (.ref b14), (.ref b8), (.ref b4), (.ref b1), (.int (2 : Int32)), (.ref b22), (.ref b22)])) rfl (by rw [hml]; rfl) (Steps.refl _) (a := b22) (argsL := [(.int (2 : Int32)), (.ref b1), (.ref b4), (.ref b8), (.ref b14), (.int (2 : Int32))]) (rest := [(.ref b22)]) (lenOf pd_2 rfl) rfl (by show 2 * 0 + _ ≤ _; exact Nat.le_of_eq rfl) (hb hby at_70) (fun _ _ => ⟨rfl, e22, (by decide : 5 + 7 ≤ _), (by decide : 15 + 23 ≤ _)⟩)
  dsimp only [Pt.U, Pt.locs, Pt.cells, Pt.slots] at X34 l34 y34 z34 st34 hQ34
  subst l34 y34 z34
  obtain ⟨mt_34, r_34, rfl, N34q, K34, g_mt_34, sz_mt_34, g_r_34, sz_r_34, P34_0, P34_1, P34_2, P34_3, P34_4⟩ := hQ34
  have ne35 : b22 ≠ mt_34 := Nat.ne_of_lt (Nat.lt_of_lt_of_le A22.lt sz_mt_34)
  have ne36 : b1 ≠ mt_34 := Nat.ne_of_lt (Nat.lt_of_lt_of_le F30.lt sz_mt_34)
  have ne37 : b4 ≠ mt_34 := Nat.ne_of_lt (Nat.lt_of_lt_of_le F31.lt sz_mt_34)
  have ne38 : b8 ≠ mt_34 := Nat.ne_of_lt (Nat.lt_of_lt_of_le F32.lt sz_mt_34)
  have ne39 : b14 ≠ mt_34 := Nat.ne_of_lt (Nat.lt_of_lt_of_le F33.lt sz_mt_34)
  have ne40 : b22 ≠ r_34 := Nat.ne_of_lt (Nat.lt_of_lt_of_le A22.lt sz_r_34)
  have ne41 : b1 ≠ r_34 := Nat.ne_of_lt (Nat.lt_of_lt_of_le F30.lt sz_r_34)
  have ne42 : b4 ≠ r_34 := Nat.ne_of_lt (Nat.lt_of_lt_of_le F31.lt sz_r_34)
  have ne43 : b8 ≠ r_34 := Nat.ne_of_lt (Nat.lt_of_lt_of_le F32.lt sz_r_34)
  have ne44 : b14 ≠ r_34 := Nat.ne_of_lt (Nat.lt_of_lt_of_le F33.lt sz_r_34)
  have sz45 : h0.size ≤ mt_34 := Nat.le_trans K22.1 sz_mt_34
  have sz46 : h0.size ≤ r_34 := Nat.le_trans K22.1 sz_r_34
  have K47 : Keep h0 T34.heap [] := K22.trans K34 (allS (Or.inr sz_b22) all0)
  have N34 := Fr.app N21 N34q
  have F49 := (A22.keep K34)
  obtain ⟨cq48, kq48, q48a, q48b, q48c⟩ := isOf hZ rfl F49
  obtain ⟨_, _, ⟨T48, L48, k48, n48⟩, -, X48, ⟨Lc48, hQ48, l48, y48, z48⟩, st48⟩ := X34.virtualBack hx (y := (⟨"com/example/hindsight/hindsight/solvers/ResidualNetwork", "push", "(II)V"⟩ : MethodName)) (z := (⟨"com/example/hindsight/hindsight/solvers/ResidualNetwork", "push", "(II)V"⟩ : MethodName)) hown (mvT hZ (hw _ (List.mem_of_getElem? (i := 31) rfl))) (mvT hZ (hw _ (List.mem_of_getElem? (i := 32) rfl))) (notFace_of_selects (args := #[]) (mvT hZ (hw _ (List.mem_of_getElem? (i := 34) rfl)))) (mvT hZ (hw _ (List.mem_of_getElem? (i := 34) rfl))) (mvT hZ (hw _ (List.mem_of_getElem? (i := 33) rfl))) (by decide) (backOf (W := 0) (rm3 l Z a0 hw [] b22 (p3 &&& (3 : Int32)) p4 r_34 mt_34 p1 (0 : Int32) (0 : Int32) p2 (T34.heap) n0 (Nat.le_trans Z0 K47.1) P34_1 P34_0 P34_3 P34_2 g_r_34 ne40 P34_4 (own_and3 _)) hZ (hw _ (List.mem_of_getElem? (i := 35) rfl)) (hw _ (List.mem_of_getElem? (i := 6) rfl)) (by decide) (by decide)) q48a q48c (g := (mkF m 92 #[.val (.int p1), .val (.int p2), .val (.int p3), .val (.int p4), .val (.int p5), .val (.ref b1), .val (.ref b4), .val (.ref b8), .val (.ref b14), .val (.ref b22), .val (.int (p3 &&& (3 : Int32))), .val (.int (((p3.toUInt32 >>> ((2 : Int32) &&& 31).toUInt32).toInt32) &&& (3 : Int32))), .unset, .unset] [(.int p4), (.int (p3 &&& (3 : Int32))), (.ref b22)])) rfl (by rw [hml]; rfl) (Steps.refl _) (argsL := [(.int (p3 &&& (3 : Int32))), (.int p4)]) (rest := []) (lenOf pd_3 rfl) rfl (by show 2 * 0 + _ ≤ _; exact Nat.le_of_eq rfl) (hb hby at_92) (fun _ _ => ⟨rfl, rfl, (by decide : 12 + 0 ≤ _), (by decide : 38 + 0 ≤ _)⟩)
  dsimp only [Pt.U, Pt.locs, Pt.cells, Pt.slots] at X48 l48 y48 z48 st48 hQ48
  subst l48 y48 z48
  obtain ⟨rfl, N48q, K48, P48_0⟩ := hQ48
  have K50 : Keep h0 T48.heap [] := K47.trans K48 (allS (Or.inr sz46) all0)
  have N48 := Fr.app N34 N48q
  have F51 := (P34_1.keep K48 (ninS ne40 nin0))
  obtain ⟨_, _, ⟨T52, L52, k52, n52⟩, -, X52, ⟨Lc52, hQ52, l52, y52, z52⟩, st52⟩ := Jvm.LawKit.callS X48 hx (y := (⟨"com/example/hindsight/hindsight/solvers/ResidualNetworkPushPinLaw", "matches", "(Lcom/example/hindsight/hindsight/solvers/ResidualNetwork;IIIIII)Z"⟩ : MethodName)) hown (mvT hZ (hw _ (List.mem_of_getElem? (i := 36) rfl))) (mvT hZ (hw _ (List.mem_of_getElem? (i := 37) rfl))) (mvT hZ (hw _ (List.mem_of_getElem? (i := 38) rfl))) (mvT hZ (hw _ (List.mem_of_getElem? (i := 39) rfl))) (by decide) (backOf (W := 0) (rm4 l Z a0 hw [] b22 p1 p2 (p3 &&& (3 : Int32)) p4 (((p3.toUInt32 >>> ((2 : Int32) &&& 31).toUInt32).toInt32) &&& (3 : Int32)) (0 : Int32) r_34 (psh (0 : Int32) (p3 &&& (3 : Int32)) p4 p1) (psh (1 : Int32) (p3 &&& (3 : Int32)) p4 (0 : Int32)) (psh (2 : Int32) (p3 &&& (3 : Int32)) p4 (0 : Int32)) (psh (3 : Int32) (p3 &&& (3 : Int32)) p4 p2) (T48.heap) n0 (Nat.le_trans Z0 K50.1) F51 P48_0) hZ (hw _ (List.mem_of_getElem? (i := 39) rfl)) (hw _ (List.mem_of_getElem? (i := 38) rfl)) (by decide) (by decide)) (g := (mkF m 105 #[.val (.int p1), .val (.int p2), .val (.int p3), .val (.int p4), .val (.int p5), .val (.ref b1), .val (.ref b4), .val (.ref b8), .val (.ref b14), .val (.ref b22), .val (.int (p3 &&& (3 : Int32))), .val (.int (((p3.toUInt32 >>> ((2 : Int32) &&& 31).toUInt32).toInt32) &&& (3 : Int32))), .unset, .unset] [(.int (0 : Int32)), (.int (((p3.toUInt32 >>> ((2 : Int32) &&& 31).toUInt32).toInt32) &&& (3 : Int32))), (.int p4), (.int (p3 &&& (3 : Int32))), (.int p2), (.int p1), (.ref b22)])) rfl (by rw [hml]; rfl) (argsL := [(.ref b22), (.int p1), (.int p2), (.int (p3 &&& (3 : Int32))), (.int p4), (.int (((p3.toUInt32 >>> ((2 : Int32) &&& 31).toUInt32).toInt32) &&& (3 : Int32))), (.int (0 : Int32))]) (rest := []) (lenOf pd_4 rfl) rfl (by show 2 * 0 + _ ≤ _; exact Nat.le_of_eq rfl) (hb hby at_105) (fun _ _ => ⟨rfl, rfl, (by decide : 12 + 0 ≤ _), (by decide : 38 + 0 ≤ _)⟩)
  dsimp only [Pt.U, Pt.locs, Pt.cells, Pt.slots] at X52 l52 y52 z52 st52 hQ52
  subst l52 y52 z52
  obtain ⟨rfl, N52q, e52⟩ := hQ52
  have N52 := Fr.app N48 N52q
  have F53 := (P34_0.keep K48 (ninS ne40 nin0))
  have F54 := (P34_2.keep K48 (ninS P34_4 nin0))
  have F56 := (F49.keep K48)
  obtain ⟨cq55, kq55, q55a, q55b, q55c⟩ := isOf hZ e52 F56
  obtain ⟨_, _, ⟨T55, L55, k55, n55⟩, -, X55, ⟨Lc55, hQ55, l55, y55, z55⟩, st55⟩ := X52.virtualBack hx (y := (⟨"com/example/hindsight/hindsight/solvers/ResidualNetwork", "push", "(II)V"⟩ : MethodName)) (z := (⟨"com/example/hindsight/hindsight/solvers/ResidualNetwork", "push", "(II)V"⟩ : MethodName)) hown (mvT hZ (hw _ (List.mem_of_getElem? (i := 31) rfl))) (mvT hZ (hw _ (List.mem_of_getElem? (i := 32) rfl))) (notFace_of_selects (args := #[]) (mvT hZ (hw _ (List.mem_of_getElem? (i := 34) rfl)))) (mvT hZ (hw _ (List.mem_of_getElem? (i := 34) rfl))) (mvT hZ (hw _ (List.mem_of_getElem? (i := 33) rfl))) (by decide) (backOf (W := 0) (rm3 l Z a0 hw [] b22 (((p3.toUInt32 >>> ((2 : Int32) &&& 31).toUInt32).toInt32) &&& (3 : Int32)) p5 r_34 mt_34 (psh (0 : Int32) (p3 &&& (3 : Int32)) p4 p1) (psh (1 : Int32) (p3 &&& (3 : Int32)) p4 (0 : Int32)) (psh (2 : Int32) (p3 &&& (3 : Int32)) p4 (0 : Int32)) (psh (3 : Int32) (p3 &&& (3 : Int32)) p4 p2) (T48.heap) n0 (Nat.le_trans Z0 K50.1) F51 F53 P48_0 F54 g_r_34 ne40 P34_4 (own_and3 _)) hZ (hw _ (List.mem_of_getElem? (i := 35) rfl)) (hw _ (List.mem_of_getElem? (i := 6) rfl)) (by decide) (by decide)) q55a q55c (g := (mkF m 116 #[.val (.int p1), .val (.int p2), .val (.int p3), .val (.int p4), .val (.int p5), .val (.ref b1), .val (.ref b4), .val (.ref b8), .val (.ref b14), .val (.ref b22), .val (.int (p3 &&& (3 : Int32))), .val (.int (((p3.toUInt32 >>> ((2 : Int32) &&& 31).toUInt32).toInt32) &&& (3 : Int32))), .val (.int (f4 p1 p2 (p3 &&& (3 : Int32)) p4 (((p3.toUInt32 >>> ((2 : Int32) &&& 31).toUInt32).toInt32) &&& (3 : Int32)) (0 : Int32) (psh (0 : Int32) (p3 &&& (3 : Int32)) p4 p1) (psh (1 : Int32) (p3 &&& (3 : Int32)) p4 (0 : Int32)) (psh (2 : Int32) (p3 &&& (3 : Int32)) p4 (0 : Int32)) (psh (3 : Int32) (p3 &&& (3 : Int32)) p4 p2))), .unset] [(.int p5), (.int (((p3.toUInt32 >>> ((2 : Int32) &&& 31).toUInt32).toInt32) &&& (3 : Int32))), (.ref b22)])) rfl (by rw [hml]; rfl) (Steps.refl _) (argsL := [(.int (((p3.toUInt32 >>> ((2 : Int32) &&& 31).toUInt32).toInt32) &&& (3 : Int32))), (.int p5)]) (rest := []) (lenOf pd_3 rfl) rfl (by show 2 * 0 + _ ≤ _; exact Nat.le_of_eq rfl) (hb hby at_116) (fun _ _ => ⟨rfl, e52, (by decide : 12 + 0 ≤ _), (by decide : 38 + 0 ≤ _)⟩)
  dsimp only [Pt.U, Pt.locs, Pt.cells, Pt.slots] at X55 l55 y55 z55 st55 hQ55
  subst l55 y55 z55
  obtain ⟨rfl, N55q, K55, P55_0⟩ := hQ55
  have K57 : Keep h0 T55.heap [] := K50.trans K55 (allS (Or.inr sz46) all0)
  have N55 := Fr.app N52 N55q
  have F58 := (F51.keep K55 (ninS ne40 nin0))
  obtain ⟨_, _, ⟨T59, L59, k59, n59⟩, -, X59, ⟨Lc59, hQ59, l59, y59, z59⟩, st59⟩ := Jvm.LawKit.callS X55 hx (y := (⟨"com/example/hindsight/hindsight/solvers/ResidualNetworkPushPinLaw", "matches", "(Lcom/example/hindsight/hindsight/solvers/ResidualNetwork;IIIIII)Z"⟩ : MethodName)) hown (mvT hZ (hw _ (List.mem_of_getElem? (i := 36) rfl))) (mvT hZ (hw _ (List.mem_of_getElem? (i := 37) rfl))) (mvT hZ (hw _ (List.mem_of_getElem? (i := 38) rfl))) (mvT hZ (hw _ (List.mem_of_getElem? (i := 39) rfl))) (by decide) (backOf (W := 0) (rm4 l Z a0 hw [] b22 p1 p2 (p3 &&& (3 : Int32)) p4 (((p3.toUInt32 >>> ((2 : Int32) &&& 31).toUInt32).toInt32) &&& (3 : Int32)) p5 r_34 (psh (0 : Int32) (((p3.toUInt32 >>> ((2 : Int32) &&& 31).toUInt32).toInt32) &&& (3 : Int32)) p5 (psh (0 : Int32) (p3 &&& (3 : Int32)) p4 p1)) (psh (1 : Int32) (((p3.toUInt32 >>> ((2 : Int32) &&& 31).toUInt32).toInt32) &&& (3 : Int32)) p5 (psh (1 : Int32) (p3 &&& (3 : Int32)) p4 (0 : Int32))) (psh (2 : Int32) (((p3.toUInt32 >>> ((2 : Int32) &&& 31).toUInt32).toInt32) &&& (3 : Int32)) p5 (psh (2 : Int32) (p3 &&& (3 : Int32)) p4 (0 : Int32))) (psh (3 : Int32) (((p3.toUInt32 >>> ((2 : Int32) &&& 31).toUInt32).toInt32) &&& (3 : Int32)) p5 (psh (3 : Int32) (p3 &&& (3 : Int32)) p4 p2)) (T55.heap) n0 (Nat.le_trans Z0 K57.1) F58 P55_0) hZ (hw _ (List.mem_of_getElem? (i := 39) rfl)) (hw _ (List.mem_of_getElem? (i := 38) rfl)) (by decide) (by decide)) (g := (mkF m 130 #[.val (.int p1), .val (.int p2), .val (.int p3), .val (.int p4), .val (.int p5), .val (.ref b1), .val (.ref b4), .val (.ref b8), .val (.ref b14), .val (.ref b22), .val (.int (p3 &&& (3 : Int32))), .val (.int (((p3.toUInt32 >>> ((2 : Int32) &&& 31).toUInt32).toInt32) &&& (3 : Int32))), .val (.int (f4 p1 p2 (p3 &&& (3 : Int32)) p4 (((p3.toUInt32 >>> ((2 : Int32) &&& 31).toUInt32).toInt32) &&& (3 : Int32)) (0 : Int32) (psh (0 : Int32) (p3 &&& (3 : Int32)) p4 p1) (psh (1 : Int32) (p3 &&& (3 : Int32)) p4 (0 : Int32)) (psh (2 : Int32) (p3 &&& (3 : Int32)) p4 (0 : Int32)) (psh (3 : Int32) (p3 &&& (3 : Int32)) p4 p2))), .unset] [(.int p5), (.int (((p3.toUInt32 >>> ((2 : Int32) &&& 31).toUInt32).toInt32) &&& (3 : Int32))), (.int p4), (.int (p3 &&& (3 : Int32))), (.int p2), (.int p1), (.ref b22)])) rfl (by rw [hml]; rfl) (argsL := [(.ref b22), (.int p1), (.int p2), (.int (p3 &&& (3 : Int32))), (.int p4), (.int (((p3.toUInt32 >>> ((2 : Int32) &&& 31).toUInt32).toInt32) &&& (3 : Int32))), (.int p5)]) (rest := []) (lenOf pd_4 rfl) rfl (by show 2 * 0 + _ ≤ _; exact Nat.le_of_eq rfl) (hb hby at_130) (fun _ _ => ⟨rfl, rfl, (by decide : 12 + 0 ≤ _), (by decide : 38 + 0 ≤ _)⟩)
  dsimp only [Pt.U, Pt.locs, Pt.cells, Pt.slots] at X59 l59 y59 z59 st59 hQ59
  subst l59 y59 z59
  obtain ⟨rfl, N59q, e59⟩ := hQ59
  have N59 := Fr.app N55 N59q
  have pre60 : ∀ t, Steps p.tables e below (T59.setTop (mkF m 137 #[.val (.int p1), .val (.int p2), .val (.int p3), .val (.int p4), .val (.int p5), .val (.ref b1), .val (.ref b4), .val (.ref b8), .val (.ref b14), .val (.ref b22), .val (.int (p3 &&& (3 : Int32))), .val (.int (((p3.toUInt32 >>> ((2 : Int32) &&& 31).toUInt32).toInt32) &&& (3 : Int32))), .val (.int (f4 p1 p2 (p3 &&& (3 : Int32)) p4 (((p3.toUInt32 >>> ((2 : Int32) &&& 31).toUInt32).toInt32) &&& (3 : Int32)) (0 : Int32) (psh (0 : Int32) (p3 &&& (3 : Int32)) p4 p1) (psh (1 : Int32) (p3 &&& (3 : Int32)) p4 (0 : Int32)) (psh (2 : Int32) (p3 &&& (3 : Int32)) p4 (0 : Int32)) (psh (3 : Int32) (p3 &&& (3 : Int32)) p4 p2))), .val (.int (f4 p1 p2 (p3 &&& (3 : Int32)) p4 (((p3.toUInt32 >>> ((2 : Int32) &&& 31).toUInt32).toInt32) &&& (3 : Int32)) p5 (psh (0 : Int32) (((p3.toUInt32 >>> ((2 : Int32) &&& 31).toUInt32).toInt32) &&& (3 : Int32)) p5 (psh (0 : Int32) (p3 &&& (3 : Int32)) p4 p1)) (psh (1 : Int32) (((p3.toUInt32 >>> ((2 : Int32) &&& 31).toUInt32).toInt32) &&& (3 : Int32)) p5 (psh (1 : Int32) (p3 &&& (3 : Int32)) p4 (0 : Int32))) (psh (2 : Int32) (((p3.toUInt32 >>> ((2 : Int32) &&& 31).toUInt32).toInt32) &&& (3 : Int32)) p5 (psh (2 : Int32) (p3 &&& (3 : Int32)) p4 (0 : Int32))) (psh (3 : Int32) (((p3.toUInt32 >>> ((2 : Int32) &&& 31).toUInt32).toInt32) &&& (3 : Int32)) p5 (psh (3 : Int32) (p3 &&& (3 : Int32)) p4 p2))))] [(.int (f4 p1 p2 (p3 &&& (3 : Int32)) p4 (((p3.toUInt32 >>> ((2 : Int32) &&& 31).toUInt32).toInt32) &&& (3 : Int32)) (0 : Int32) (psh (0 : Int32) (p3 &&& (3 : Int32)) p4 p1) (psh (1 : Int32) (p3 &&& (3 : Int32)) p4 (0 : Int32)) (psh (2 : Int32) (p3 &&& (3 : Int32)) p4 (0 : Int32)) (psh (3 : Int32) (p3 &&& (3 : Int32)) p4 p2)))])) t → Steps p.tables e below (s₁.setTop (entryFrame m #[(.int p1), (.int p2), (.int p3), (.int p4), (.int p5)] maxLocals)) t := fun t k => pre0 t (by
    show Steps p.tables e below (s₁.setTop (mkF m 0 #[.val (.int p1), .val (.int p2), .val (.int p3), .val (.int p4), .val (.int p5), .unset, .unset, .unset, .unset, .unset, .unset, .unset, .unset, .unset] [])) _
    refine XS.iconst X0.here hx rfl (hb hby at_0) ?_
    show Steps p.tables e below (s₁.setTop (mkF m 1 #[.val (.int p1), .val (.int p2), .val (.int p3), .val (.int p4), .val (.int p5), .unset, .unset, .unset, .unset, .unset, .unset, .unset, .unset, .unset] [(.int (2 : Int32))])) _
    refine st1 _ ?_
    show Steps p.tables e below (T1.setTop (mkF m 3 #[.val (.int p1), .val (.int p2), .val (.int p3), .val (.int p4), .val (.int p5), .unset, .unset, .unset, .unset, .unset, .unset, .unset, .unset, .unset] [(.ref b1)])) _
    refine XS.dup X1.here hx rfl (hb hby at_3) rfl rfl ?_
    show Steps p.tables e below (T1.setTop (mkF m 4 #[.val (.int p1), .val (.int p2), .val (.int p3), .val (.int p4), .val (.int p5), .unset, .unset, .unset, .unset, .unset, .unset, .unset, .unset, .unset] [(.ref b1), (.ref b1)])) _
    refine XS.iconst X1.here hx rfl (hb hby at_4) ?_
    show Steps p.tables e below (T1.setTop (mkF m 5 #[.val (.int p1), .val (.int p2), .val (.int p3), .val (.int p4), .val (.int p5), .unset, .unset, .unset, .unset, .unset, .unset, .unset, .unset, .unset] [(.int (0 : Int32)), (.ref b1), (.ref b1)])) _
    refine XS.iconst X1.here hx rfl (hb hby at_5) ?_
    show Steps p.tables e below (T1.setTop (mkF m 6 #[.val (.int p1), .val (.int p2), .val (.int p3), .val (.int p4), .val (.int p5), .unset, .unset, .unset, .unset, .unset, .unset, .unset, .unset, .unset] [(.int (0 : Int32)), (.int (0 : Int32)), (.ref b1), (.ref b1)])) _
    refine st2 _ ?_
    show Steps p.tables e below (T2.setTop (mkF m 7 #[.val (.int p1), .val (.int p2), .val (.int p3), .val (.int p4), .val (.int p5), .unset, .unset, .unset, .unset, .unset, .unset, .unset, .unset, .unset] [(.ref b1)])) _
    refine XS.dup X2.here hx rfl (hb hby at_7) rfl rfl ?_
    show Steps p.tables e below (T2.setTop (mkF m 8 #[.val (.int p1), .val (.int p2), .val (.int p3), .val (.int p4), .val (.int p5), .unset, .unset, .unset, .unset, .unset, .unset, .unset, .unset, .unset] [(.ref b1), (.ref b1)])) _
    refine XS.iconst X2.here hx rfl (hb hby at_8) ?_
    show Steps p.tables e below (T2.setTop (mkF m 9 #[.val (.int p1), .val (.int p2), .val (.int p3), .val (.int p4), .val (.int p5), .unset, .unset, .unset, .unset, .unset, .unset, .unset, .unset, .unset] [(.int (1 : Int32)), (.ref b1), (.ref b1)])) _
    refine XS.iconst X2.here hx rfl (hb hby at_9) ?_
    show Steps p.tables e below (T2.setTop (mkF m 10 #[.val (.int p1), .val (.int p2), .val (.int p3), .val (.int p4), .val (.int p5), .unset, .unset, .unset, .unset, .unset, .unset, .unset, .unset, .unset] [(.int (1 : Int32)), (.int (1 : Int32)), (.ref b1), (.ref b1)])) _
    refine st3 _ ?_
    show Steps p.tables e below (T3.setTop (mkF m 11 #[.val (.int p1), .val (.int p2), .val (.int p3), .val (.int p4), .val (.int p5), .unset, .unset, .unset, .unset, .unset, .unset, .unset, .unset, .unset] [(.ref b1)])) _
    refine XS.astore X3.here hx rfl (hb hby at_11) rfl rfl (l' := #[.val (.int p1), .val (.int p2), .val (.int p3), .val (.int p4), .val (.int p5), .val (.ref b1), .unset, .unset, .unset, .unset, .unset, .unset, .unset, .unset]) rfl ?_
    show Steps p.tables e below (T3.setTop (mkF m 13 #[.val (.int p1), .val (.int p2), .val (.int p3), .val (.int p4), .val (.int p5), .val (.ref b1), .unset, .unset, .unset, .unset, .unset, .unset, .unset, .unset] [])) _
    refine XS.iconst X3.here hx rfl (hb hby at_13) ?_
    show Steps p.tables e below (T3.setTop (mkF m 14 #[.val (.int p1), .val (.int p2), .val (.int p3), .val (.int p4), .val (.int p5), .val (.ref b1), .unset, .unset, .unset, .unset, .unset, .unset, .unset, .unset] [(.int (2 : Int32))])) _
    refine st4 _ ?_
    show Steps p.tables e below (T4.setTop (mkF m 16 #[.val (.int p1), .val (.int p2), .val (.int p3), .val (.int p4), .val (.int p5), .val (.ref b1), .unset, .unset, .unset, .unset, .unset, .unset, .unset, .unset] [(.ref b4)])) _
    refine XS.dup X4.here hx rfl (hb hby at_16) rfl rfl ?_
    show Steps p.tables e below (T4.setTop (mkF m 17 #[.val (.int p1), .val (.int p2), .val (.int p3), .val (.int p4), .val (.int p5), .val (.ref b1), .unset, .unset, .unset, .unset, .unset, .unset, .unset, .unset] [(.ref b4), (.ref b4)])) _
    refine XS.iconst X4.here hx rfl (hb hby at_17) ?_
    show Steps p.tables e below (T4.setTop (mkF m 18 #[.val (.int p1), .val (.int p2), .val (.int p3), .val (.int p4), .val (.int p5), .val (.ref b1), .unset, .unset, .unset, .unset, .unset, .unset, .unset, .unset] [(.int (0 : Int32)), (.ref b4), (.ref b4)])) _
    refine XS.iconst X4.here hx rfl (hb hby at_18) ?_
    show Steps p.tables e below (T4.setTop (mkF m 19 #[.val (.int p1), .val (.int p2), .val (.int p3), .val (.int p4), .val (.int p5), .val (.ref b1), .unset, .unset, .unset, .unset, .unset, .unset, .unset, .unset] [(.int (1 : Int32)), (.int (0 : Int32)), (.ref b4), (.ref b4)])) _
    refine st6 _ ?_
    show Steps p.tables e below (T6.setTop (mkF m 20 #[.val (.int p1), .val (.int p2), .val (.int p3), .val (.int p4), .val (.int p5), .val (.ref b1), .unset, .unset, .unset, .unset, .unset, .unset, .unset, .unset] [(.ref b4)])) _
    refine XS.dup X6.here hx rfl (hb hby at_20) rfl rfl ?_
    show Steps p.tables e below (T6.setTop (mkF m 21 #[.val (.int p1), .val (.int p2), .val (.int p3), .val (.int p4), .val (.int p5), .val (.ref b1), .unset, .unset, .unset, .unset, .unset, .unset, .unset, .unset] [(.ref b4), (.ref b4)])) _
    refine XS.iconst X6.here hx rfl (hb hby at_21) ?_
    show Steps p.tables e below (T6.setTop (mkF m 22 #[.val (.int p1), .val (.int p2), .val (.int p3), .val (.int p4), .val (.int p5), .val (.ref b1), .unset, .unset, .unset, .unset, .unset, .unset, .unset, .unset] [(.int (1 : Int32)), (.ref b4), (.ref b4)])) _
    refine XS.iconst X6.here hx rfl (hb hby at_22) ?_
    show Steps p.tables e below (T6.setTop (mkF m 23 #[.val (.int p1), .val (.int p2), .val (.int p3), .val (.int p4), .val (.int p5), .val (.ref b1), .unset, .unset, .unset, .unset, .unset, .unset, .unset, .unset] [(.int (0 : Int32)), (.int (1 : Int32)), (.ref b4), (.ref b4)])) _
    refine st7 _ ?_
    show Steps p.tables e below (T7.setTop (mkF m 24 #[.val (.int p1), .val (.int p2), .val (.int p3), .val (.int p4), .val (.int p5), .val (.ref b1), .unset, .unset, .unset, .unset, .unset, .unset, .unset, .unset] [(.ref b4)])) _
    refine XS.astore X7.here hx rfl (hb hby at_24) rfl rfl (l' := #[.val (.int p1), .val (.int p2), .val (.int p3), .val (.int p4), .val (.int p5), .val (.ref b1), .val (.ref b4), .unset, .unset, .unset, .unset, .unset, .unset, .unset]) rfl ?_
    show Steps p.tables e below (T7.setTop (mkF m 26 #[.val (.int p1), .val (.int p2), .val (.int p3), .val (.int p4), .val (.int p5), .val (.ref b1), .val (.ref b4), .unset, .unset, .unset, .unset, .unset, .unset, .unset] [])) _
    refine XS.iconst X7.here hx rfl (hb hby at_26) ?_
    show Steps p.tables e below (T7.setTop (mkF m 27 #[.val (.int p1), .val (.int p2), .val (.int p3), .val (.int p4), .val (.int p5), .val (.ref b1), .val (.ref b4), .unset, .unset, .unset, .unset, .unset, .unset, .unset] [(.int (2 : Int32))])) _
    refine st8 _ ?_
    show Steps p.tables e below (T8.setTop (mkF m 29 #[.val (.int p1), .val (.int p2), .val (.int p3), .val (.int p4), .val (.int p5), .val (.ref b1), .val (.ref b4), .unset, .unset, .unset, .unset, .unset, .unset, .unset] [(.ref b8)])) _
    refine XS.dup X8.here hx rfl (hb hby at_29) rfl rfl ?_
    show Steps p.tables e below (T8.setTop (mkF m 30 #[.val (.int p1), .val (.int p2), .val (.int p3), .val (.int p4), .val (.int p5), .val (.ref b1), .val (.ref b4), .unset, .unset, .unset, .unset, .unset, .unset, .unset] [(.ref b8), (.ref b8)])) _
    refine XS.iconst X8.here hx rfl (hb hby at_30) ?_
    show Steps p.tables e below (T8.setTop (mkF m 31 #[.val (.int p1), .val (.int p2), .val (.int p3), .val (.int p4), .val (.int p5), .val (.ref b1), .val (.ref b4), .unset, .unset, .unset, .unset, .unset, .unset, .unset] [(.int (0 : Int32)), (.ref b8), (.ref b8)])) _
    refine XS.iloadN X8.here hx rfl (hb hby at_31) rfl ?_
    show Steps p.tables e below (T8.setTop (mkF m 32 #[.val (.int p1), .val (.int p2), .val (.int p3), .val (.int p4), .val (.int p5), .val (.ref b1), .val (.ref b4), .unset, .unset, .unset, .unset, .unset, .unset, .unset] [(.int p1), (.int (0 : Int32)), (.ref b8), (.ref b8)])) _
    refine st12 _ ?_
    show Steps p.tables e below (T12.setTop (mkF m 33 #[.val (.int p1), .val (.int p2), .val (.int p3), .val (.int p4), .val (.int p5), .val (.ref b1), .val (.ref b4), .unset, .unset, .unset, .unset, .unset, .unset, .unset] [(.ref b8)])) _
    refine XS.dup X12.here hx rfl (hb hby at_33) rfl rfl ?_
    show Steps p.tables e below (T12.setTop (mkF m 34 #[.val (.int p1), .val (.int p2), .val (.int p3), .val (.int p4), .val (.int p5), .val (.ref b1), .val (.ref b4), .unset, .unset, .unset, .unset, .unset, .unset, .unset] [(.ref b8), (.ref b8)])) _
    refine XS.iconst X12.here hx rfl (hb hby at_34) ?_
    show Steps p.tables e below (T12.setTop (mkF m 35 #[.val (.int p1), .val (.int p2), .val (.int p3), .val (.int p4), .val (.int p5), .val (.ref b1), .val (.ref b4), .unset, .unset, .unset, .unset, .unset, .unset, .unset] [(.int (1 : Int32)), (.ref b8), (.ref b8)])) _
    refine XS.iloadN X12.here hx rfl (hb hby at_35) rfl ?_
    show Steps p.tables e below (T12.setTop (mkF m 36 #[.val (.int p1), .val (.int p2), .val (.int p3), .val (.int p4), .val (.int p5), .val (.ref b1), .val (.ref b4), .unset, .unset, .unset, .unset, .unset, .unset, .unset] [(.int p2), (.int (1 : Int32)), (.ref b8), (.ref b8)])) _
    refine st13 _ ?_
    show Steps p.tables e below (T13.setTop (mkF m 37 #[.val (.int p1), .val (.int p2), .val (.int p3), .val (.int p4), .val (.int p5), .val (.ref b1), .val (.ref b4), .unset, .unset, .unset, .unset, .unset, .unset, .unset] [(.ref b8)])) _
    refine XS.astore X13.here hx rfl (hb hby at_37) rfl rfl (l' := #[.val (.int p1), .val (.int p2), .val (.int p3), .val (.int p4), .val (.int p5), .val (.ref b1), .val (.ref b4), .val (.ref b8), .unset, .unset, .unset, .unset, .unset, .unset]) rfl ?_
    show Steps p.tables e below (T13.setTop (mkF m 39 #[.val (.int p1), .val (.int p2), .val (.int p3), .val (.int p4), .val (.int p5), .val (.ref b1), .val (.ref b4), .val (.ref b8), .unset, .unset, .unset, .unset, .unset, .unset] [])) _
    refine XS.iconst X13.here hx rfl (hb hby at_39) ?_
    show Steps p.tables e below (T13.setTop (mkF m 40 #[.val (.int p1), .val (.int p2), .val (.int p3), .val (.int p4), .val (.int p5), .val (.ref b1), .val (.ref b4), .val (.ref b8), .unset, .unset, .unset, .unset, .unset, .unset] [(.int (2 : Int32))])) _
    refine st14 _ ?_
    show Steps p.tables e below (T14.setTop (mkF m 42 #[.val (.int p1), .val (.int p2), .val (.int p3), .val (.int p4), .val (.int p5), .val (.ref b1), .val (.ref b4), .val (.ref b8), .unset, .unset, .unset, .unset, .unset, .unset] [(.ref b14)])) _
    refine XS.dup X14.here hx rfl (hb hby at_42) rfl rfl ?_
    show Steps p.tables e below (T14.setTop (mkF m 43 #[.val (.int p1), .val (.int p2), .val (.int p3), .val (.int p4), .val (.int p5), .val (.ref b1), .val (.ref b4), .val (.ref b8), .unset, .unset, .unset, .unset, .unset, .unset] [(.ref b14), (.ref b14)])) _
    refine XS.iconst X14.here hx rfl (hb hby at_43) ?_
    show Steps p.tables e below (T14.setTop (mkF m 44 #[.val (.int p1), .val (.int p2), .val (.int p3), .val (.int p4), .val (.int p5), .val (.ref b1), .val (.ref b4), .val (.ref b8), .unset, .unset, .unset, .unset, .unset, .unset] [(.int (0 : Int32)), (.ref b14), (.ref b14)])) _
    refine X14.ldc2Long hx hown (mvT hZ (hw _ (List.mem_of_getElem? (i := 2) rfl))) (g := (mkF m 44 #[.val (.int p1), .val (.int p2), .val (.int p3), .val (.int p4), .val (.int p5), .val (.ref b1), .val (.ref b4), .val (.ref b8), .unset, .unset, .unset, .unset, .unset, .unset] [(.int (0 : Int32)), (.ref b14), (.ref b14)])) rfl (hb hby at_44) _ ?_
    show Steps p.tables e below (T14.setTop (mkF m 47 #[.val (.int p1), .val (.int p2), .val (.int p3), .val (.int p4), .val (.int p5), .val (.ref b1), .val (.ref b4), .val (.ref b8), .unset, .unset, .unset, .unset, .unset, .unset] [(.long (5 : Int64)), (.int (0 : Int32)), (.ref b14), (.ref b14)])) _
    refine st20 _ ?_
    show Steps p.tables e below (T20.setTop (mkF m 48 #[.val (.int p1), .val (.int p2), .val (.int p3), .val (.int p4), .val (.int p5), .val (.ref b1), .val (.ref b4), .val (.ref b8), .unset, .unset, .unset, .unset, .unset, .unset] [(.ref b14)])) _
    refine XS.dup X20.here hx rfl (hb hby at_48) rfl rfl ?_
    show Steps p.tables e below (T20.setTop (mkF m 49 #[.val (.int p1), .val (.int p2), .val (.int p3), .val (.int p4), .val (.int p5), .val (.ref b1), .val (.ref b4), .val (.ref b8), .unset, .unset, .unset, .unset, .unset, .unset] [(.ref b14), (.ref b14)])) _
    refine XS.iconst X20.here hx rfl (hb hby at_49) ?_
    show Steps p.tables e below (T20.setTop (mkF m 50 #[.val (.int p1), .val (.int p2), .val (.int p3), .val (.int p4), .val (.int p5), .val (.ref b1), .val (.ref b4), .val (.ref b8), .unset, .unset, .unset, .unset, .unset, .unset] [(.int (1 : Int32)), (.ref b14), (.ref b14)])) _
    refine X20.ldc2Long hx hown (mvT hZ (hw _ (List.mem_of_getElem? (i := 3) rfl))) (g := (mkF m 50 #[.val (.int p1), .val (.int p2), .val (.int p3), .val (.int p4), .val (.int p5), .val (.ref b1), .val (.ref b4), .val (.ref b8), .unset, .unset, .unset, .unset, .unset, .unset] [(.int (1 : Int32)), (.ref b14), (.ref b14)])) rfl (hb hby at_50) _ ?_
    show Steps p.tables e below (T20.setTop (mkF m 53 #[.val (.int p1), .val (.int p2), .val (.int p3), .val (.int p4), .val (.int p5), .val (.ref b1), .val (.ref b4), .val (.ref b8), .unset, .unset, .unset, .unset, .unset, .unset] [(.long (-7 : Int64)), (.int (1 : Int32)), (.ref b14), (.ref b14)])) _
    refine st21 _ ?_
    show Steps p.tables e below (T21.setTop (mkF m 54 #[.val (.int p1), .val (.int p2), .val (.int p3), .val (.int p4), .val (.int p5), .val (.ref b1), .val (.ref b4), .val (.ref b8), .unset, .unset, .unset, .unset, .unset, .unset] [(.ref b14)])) _
    refine XS.astore X21.here hx rfl (hb hby at_54) rfl rfl (l' := #[.val (.int p1), .val (.int p2), .val (.int p3), .val (.int p4), .val (.int p5), .val (.ref b1), .val (.ref b4), .val (.ref b8), .val (.ref b14), .unset, .unset, .unset, .unset, .unset]) rfl ?_
    show Steps p.tables e below (T21.setTop (mkF m 56 #[.val (.int p1), .val (.int p2), .val (.int p3), .val (.int p4), .val (.int p5), .val (.ref b1), .val (.ref b4), .val (.ref b8), .val (.ref b14), .unset, .unset, .unset, .unset, .unset] [])) _
    refine st22 _ ?_
    show Steps p.tables e below (T22.setTop (mkF m 59 #[.val (.int p1), .val (.int p2), .val (.int p3), .val (.int p4), .val (.int p5), .val (.ref b1), .val (.ref b4), .val (.ref b8), .val (.ref b14), .unset, .unset, .unset, .unset, .unset] [(.ref b22)])) _
    refine XS.dup X22.here hx rfl (hb hby at_59) rfl rfl ?_
    show Steps p.tables e below (T22.setTop (mkF m 60 #[.val (.int p1), .val (.int p2), .val (.int p3), .val (.int p4), .val (.int p5), .val (.ref b1), .val (.ref b4), .val (.ref b8), .val (.ref b14), .unset, .unset, .unset, .unset, .unset] [(.ref b22), (.ref b22)])) _
    refine XS.iconst X22.here hx rfl (hb hby at_60) ?_
    show Steps p.tables e below (T22.setTop (mkF m 61 #[.val (.int p1), .val (.int p2), .val (.int p3), .val (.int p4), .val (.int p5), .val (.ref b1), .val (.ref b4), .val (.ref b8), .val (.ref b14), .unset, .unset, .unset, .unset, .unset] [(.int (2 : Int32)), (.ref b22), (.ref b22)])) _
    refine XS.aload X22.here hx rfl (hb hby at_61) rfl rfl ?_
    show Steps p.tables e below (T22.setTop (mkF m 63 #[.val (.int p1), .val (.int p2), .val (.int p3), .val (.int p4), .val (.int p5), .val (.ref b1), .val (.ref b4), .val (.ref b8), .val (.ref b14), .unset, .unset, .unset, .unset, .unset] [(.ref b1), (.int (2 : Int32)), (.ref b22), (.ref b22)])) _
    refine XS.aload X22.here hx rfl (hb hby at_63) rfl rfl ?_
    show Steps p.tables e below (T22.setTop (mkF m 65 #[.val (.int p1), .val (.int p2), .val (.int p3), .val (.int p4), .val (.int p5), .val (.ref b1), .val (.ref b4), .val (.ref b8), .val (.ref b14), .unset, .unset, .unset, .unset, .unset] [(.ref b4), (.ref b1), (.int (2 : Int32)), (.ref b22), (.ref b22)])) _
    refine XS.aload X22.here hx rfl (hb hby at_65) rfl rfl ?_
    show Steps p.tables e below (T22.setTop (mkF m 67 #[.val (.int p1), .val (.int p2), .val (.int p3), .val (.int p4), .val (.int p5), .val (.ref b1), .val (.ref b4), .val (.ref b8), .val (.ref b14), .unset, .unset, .unset, .unset, .unset] [(.ref b8), (.ref b4), (.ref b1), (.int (2 : Int32)), (.ref b22), (.ref b22)])) _
    refine XS.aload X22.here hx rfl (hb hby at_67) rfl rfl ?_
    show Steps p.tables e below (T22.setTop (mkF m 69 #[.val (.int p1), .val (.int p2), .val (.int p3), .val (.int p4), .val (.int p5), .val (.ref b1), .val (.ref b4), .val (.ref b8), .val (.ref b14), .unset, .unset, .unset, .unset, .unset] [(.ref b14), (.ref b8), (.ref b4), (.ref b1), (.int (2 : Int32)), (.ref b22), (.ref b22)])) _
    refine XS.iconst X22.here hx rfl (hb hby at_69) ?_
    show Steps p.tables e below (T22.setTop (mkF m 70 #[.val (.int p1), .val (.int p2), .val (.int p3), .val (.int p4), .val (.int p5), .val (.ref b1), .val (.ref b4), .val (.ref b8), .val (.ref b14), .unset, .unset, .unset, .unset, .unset] [(.int (2 : Int32)), (.ref b14), (.ref b8), (.ref b4), (.ref b1), (.int (2 : Int32)), (.ref b22), (.ref b22)])) _
    refine st34.trans ?_
    show Steps p.tables e below (T34.setTop (mkF m 73 #[.val (.int p1), .val (.int p2), .val (.int p3), .val (.int p4), .val (.int p5), .val (.ref b1), .val (.ref b4), .val (.ref b8), .val (.ref b14), .unset, .unset, .unset, .unset, .unset] [(.ref b22)])) _
    refine XS.astore X34.here hx rfl (hb hby at_73) rfl rfl (l' := #[.val (.int p1), .val (.int p2), .val (.int p3), .val (.int p4), .val (.int p5), .val (.ref b1), .val (.ref b4), .val (.ref b8), .val (.ref b14), .val (.ref b22), .unset, .unset, .unset, .unset]) rfl ?_
    show Steps p.tables e below (T34.setTop (mkF m 75 #[.val (.int p1), .val (.int p2), .val (.int p3), .val (.int p4), .val (.int p5), .val (.ref b1), .val (.ref b4), .val (.ref b8), .val (.ref b14), .val (.ref b22), .unset, .unset, .unset, .unset] [])) _
    refine XS.iloadN X34.here hx rfl (hb hby at_75) rfl ?_
    show Steps p.tables e below (T34.setTop (mkF m 76 #[.val (.int p1), .val (.int p2), .val (.int p3), .val (.int p4), .val (.int p5), .val (.ref b1), .val (.ref b4), .val (.ref b8), .val (.ref b14), .val (.ref b22), .unset, .unset, .unset, .unset] [(.int p3)])) _
    refine XS.iconst X34.here hx rfl (hb hby at_76) ?_
    show Steps p.tables e below (T34.setTop (mkF m 77 #[.val (.int p1), .val (.int p2), .val (.int p3), .val (.int p4), .val (.int p5), .val (.ref b1), .val (.ref b4), .val (.ref b8), .val (.ref b14), .val (.ref b22), .unset, .unset, .unset, .unset] [(.int (3 : Int32)), (.int p3)])) _
    refine XS.iand X34.here hx rfl (hb hby at_77) rfl ?_
    show Steps p.tables e below (T34.setTop (mkF m 78 #[.val (.int p1), .val (.int p2), .val (.int p3), .val (.int p4), .val (.int p5), .val (.ref b1), .val (.ref b4), .val (.ref b8), .val (.ref b14), .val (.ref b22), .unset, .unset, .unset, .unset] [(.int (p3 &&& (3 : Int32)))])) _
    refine XS.istore X34.here hx rfl (hb hby at_78) rfl (l' := #[.val (.int p1), .val (.int p2), .val (.int p3), .val (.int p4), .val (.int p5), .val (.ref b1), .val (.ref b4), .val (.ref b8), .val (.ref b14), .val (.ref b22), .val (.int (p3 &&& (3 : Int32))), .unset, .unset, .unset]) rfl ?_
    show Steps p.tables e below (T34.setTop (mkF m 80 #[.val (.int p1), .val (.int p2), .val (.int p3), .val (.int p4), .val (.int p5), .val (.ref b1), .val (.ref b4), .val (.ref b8), .val (.ref b14), .val (.ref b22), .val (.int (p3 &&& (3 : Int32))), .unset, .unset, .unset] [])) _
    refine XS.iloadN X34.here hx rfl (hb hby at_80) rfl ?_
    show Steps p.tables e below (T34.setTop (mkF m 81 #[.val (.int p1), .val (.int p2), .val (.int p3), .val (.int p4), .val (.int p5), .val (.ref b1), .val (.ref b4), .val (.ref b8), .val (.ref b14), .val (.ref b22), .val (.int (p3 &&& (3 : Int32))), .unset, .unset, .unset] [(.int p3)])) _
    refine XS.iconst X34.here hx rfl (hb hby at_81) ?_
    show Steps p.tables e below (T34.setTop (mkF m 82 #[.val (.int p1), .val (.int p2), .val (.int p3), .val (.int p4), .val (.int p5), .val (.ref b1), .val (.ref b4), .val (.ref b8), .val (.ref b14), .val (.ref b22), .val (.int (p3 &&& (3 : Int32))), .unset, .unset, .unset] [(.int (2 : Int32)), (.int p3)])) _
    refine XS.iushr X34.here hx rfl (hb hby at_82) rfl ?_
    show Steps p.tables e below (T34.setTop (mkF m 83 #[.val (.int p1), .val (.int p2), .val (.int p3), .val (.int p4), .val (.int p5), .val (.ref b1), .val (.ref b4), .val (.ref b8), .val (.ref b14), .val (.ref b22), .val (.int (p3 &&& (3 : Int32))), .unset, .unset, .unset] [(.int ((p3.toUInt32 >>> ((2 : Int32) &&& 31).toUInt32).toInt32))])) _
    refine XS.iconst X34.here hx rfl (hb hby at_83) ?_
    show Steps p.tables e below (T34.setTop (mkF m 84 #[.val (.int p1), .val (.int p2), .val (.int p3), .val (.int p4), .val (.int p5), .val (.ref b1), .val (.ref b4), .val (.ref b8), .val (.ref b14), .val (.ref b22), .val (.int (p3 &&& (3 : Int32))), .unset, .unset, .unset] [(.int (3 : Int32)), (.int ((p3.toUInt32 >>> ((2 : Int32) &&& 31).toUInt32).toInt32))])) _
    refine XS.iand X34.here hx rfl (hb hby at_84) rfl ?_
    show Steps p.tables e below (T34.setTop (mkF m 85 #[.val (.int p1), .val (.int p2), .val (.int p3), .val (.int p4), .val (.int p5), .val (.ref b1), .val (.ref b4), .val (.ref b8), .val (.ref b14), .val (.ref b22), .val (.int (p3 &&& (3 : Int32))), .unset, .unset, .unset] [(.int (((p3.toUInt32 >>> ((2 : Int32) &&& 31).toUInt32).toInt32) &&& (3 : Int32)))])) _
    refine XS.istore X34.here hx rfl (hb hby at_85) rfl (l' := #[.val (.int p1), .val (.int p2), .val (.int p3), .val (.int p4), .val (.int p5), .val (.ref b1), .val (.ref b4), .val (.ref b8), .val (.ref b14), .val (.ref b22), .val (.int (p3 &&& (3 : Int32))), .val (.int (((p3.toUInt32 >>> ((2 : Int32) &&& 31).toUInt32).toInt32) &&& (3 : Int32))), .unset, .unset]) rfl ?_
    show Steps p.tables e below (T34.setTop (mkF m 87 #[.val (.int p1), .val (.int p2), .val (.int p3), .val (.int p4), .val (.int p5), .val (.ref b1), .val (.ref b4), .val (.ref b8), .val (.ref b14), .val (.ref b22), .val (.int (p3 &&& (3 : Int32))), .val (.int (((p3.toUInt32 >>> ((2 : Int32) &&& 31).toUInt32).toInt32) &&& (3 : Int32))), .unset, .unset] [])) _
    refine XS.aload X34.here hx rfl (hb hby at_87) rfl rfl ?_
    show Steps p.tables e below (T34.setTop (mkF m 89 #[.val (.int p1), .val (.int p2), .val (.int p3), .val (.int p4), .val (.int p5), .val (.ref b1), .val (.ref b4), .val (.ref b8), .val (.ref b14), .val (.ref b22), .val (.int (p3 &&& (3 : Int32))), .val (.int (((p3.toUInt32 >>> ((2 : Int32) &&& 31).toUInt32).toInt32) &&& (3 : Int32))), .unset, .unset] [(.ref b22)])) _
    refine XS.iload X34.here hx rfl (hb hby at_89) rfl ?_
    show Steps p.tables e below (T34.setTop (mkF m 91 #[.val (.int p1), .val (.int p2), .val (.int p3), .val (.int p4), .val (.int p5), .val (.ref b1), .val (.ref b4), .val (.ref b8), .val (.ref b14), .val (.ref b22), .val (.int (p3 &&& (3 : Int32))), .val (.int (((p3.toUInt32 >>> ((2 : Int32) &&& 31).toUInt32).toInt32) &&& (3 : Int32))), .unset, .unset] [(.int (p3 &&& (3 : Int32))), (.ref b22)])) _
    refine XS.iloadN X34.here hx rfl (hb hby at_91) rfl ?_
    show Steps p.tables e below (T34.setTop (mkF m 92 #[.val (.int p1), .val (.int p2), .val (.int p3), .val (.int p4), .val (.int p5), .val (.ref b1), .val (.ref b4), .val (.ref b8), .val (.ref b14), .val (.ref b22), .val (.int (p3 &&& (3 : Int32))), .val (.int (((p3.toUInt32 >>> ((2 : Int32) &&& 31).toUInt32).toInt32) &&& (3 : Int32))), .unset, .unset] [(.int p4), (.int (p3 &&& (3 : Int32))), (.ref b22)])) _
    refine st48.trans ?_
    show Steps p.tables e below (T48.setTop (mkF m 95 #[.val (.int p1), .val (.int p2), .val (.int p3), .val (.int p4), .val (.int p5), .val (.ref b1), .val (.ref b4), .val (.ref b8), .val (.ref b14), .val (.ref b22), .val (.int (p3 &&& (3 : Int32))), .val (.int (((p3.toUInt32 >>> ((2 : Int32) &&& 31).toUInt32).toInt32) &&& (3 : Int32))), .unset, .unset] [])) _
    refine XS.aload X48.here hx rfl (hb hby at_95) rfl rfl ?_
    show Steps p.tables e below (T48.setTop (mkF m 97 #[.val (.int p1), .val (.int p2), .val (.int p3), .val (.int p4), .val (.int p5), .val (.ref b1), .val (.ref b4), .val (.ref b8), .val (.ref b14), .val (.ref b22), .val (.int (p3 &&& (3 : Int32))), .val (.int (((p3.toUInt32 >>> ((2 : Int32) &&& 31).toUInt32).toInt32) &&& (3 : Int32))), .unset, .unset] [(.ref b22)])) _
    refine XS.iloadN X48.here hx rfl (hb hby at_97) rfl ?_
    show Steps p.tables e below (T48.setTop (mkF m 98 #[.val (.int p1), .val (.int p2), .val (.int p3), .val (.int p4), .val (.int p5), .val (.ref b1), .val (.ref b4), .val (.ref b8), .val (.ref b14), .val (.ref b22), .val (.int (p3 &&& (3 : Int32))), .val (.int (((p3.toUInt32 >>> ((2 : Int32) &&& 31).toUInt32).toInt32) &&& (3 : Int32))), .unset, .unset] [(.int p1), (.ref b22)])) _
    refine XS.iloadN X48.here hx rfl (hb hby at_98) rfl ?_
    show Steps p.tables e below (T48.setTop (mkF m 99 #[.val (.int p1), .val (.int p2), .val (.int p3), .val (.int p4), .val (.int p5), .val (.ref b1), .val (.ref b4), .val (.ref b8), .val (.ref b14), .val (.ref b22), .val (.int (p3 &&& (3 : Int32))), .val (.int (((p3.toUInt32 >>> ((2 : Int32) &&& 31).toUInt32).toInt32) &&& (3 : Int32))), .unset, .unset] [(.int p2), (.int p1), (.ref b22)])) _
    refine XS.iload X48.here hx rfl (hb hby at_99) rfl ?_
    show Steps p.tables e below (T48.setTop (mkF m 101 #[.val (.int p1), .val (.int p2), .val (.int p3), .val (.int p4), .val (.int p5), .val (.ref b1), .val (.ref b4), .val (.ref b8), .val (.ref b14), .val (.ref b22), .val (.int (p3 &&& (3 : Int32))), .val (.int (((p3.toUInt32 >>> ((2 : Int32) &&& 31).toUInt32).toInt32) &&& (3 : Int32))), .unset, .unset] [(.int (p3 &&& (3 : Int32))), (.int p2), (.int p1), (.ref b22)])) _
    refine XS.iloadN X48.here hx rfl (hb hby at_101) rfl ?_
    show Steps p.tables e below (T48.setTop (mkF m 102 #[.val (.int p1), .val (.int p2), .val (.int p3), .val (.int p4), .val (.int p5), .val (.ref b1), .val (.ref b4), .val (.ref b8), .val (.ref b14), .val (.ref b22), .val (.int (p3 &&& (3 : Int32))), .val (.int (((p3.toUInt32 >>> ((2 : Int32) &&& 31).toUInt32).toInt32) &&& (3 : Int32))), .unset, .unset] [(.int p4), (.int (p3 &&& (3 : Int32))), (.int p2), (.int p1), (.ref b22)])) _
    refine XS.iload X48.here hx rfl (hb hby at_102) rfl ?_
    show Steps p.tables e below (T48.setTop (mkF m 104 #[.val (.int p1), .val (.int p2), .val (.int p3), .val (.int p4), .val (.int p5), .val (.ref b1), .val (.ref b4), .val (.ref b8), .val (.ref b14), .val (.ref b22), .val (.int (p3 &&& (3 : Int32))), .val (.int (((p3.toUInt32 >>> ((2 : Int32) &&& 31).toUInt32).toInt32) &&& (3 : Int32))), .unset, .unset] [(.int (((p3.toUInt32 >>> ((2 : Int32) &&& 31).toUInt32).toInt32) &&& (3 : Int32))), (.int p4), (.int (p3 &&& (3 : Int32))), (.int p2), (.int p1), (.ref b22)])) _
    refine XS.iconst X48.here hx rfl (hb hby at_104) ?_
    show Steps p.tables e below (T48.setTop (mkF m 105 #[.val (.int p1), .val (.int p2), .val (.int p3), .val (.int p4), .val (.int p5), .val (.ref b1), .val (.ref b4), .val (.ref b8), .val (.ref b14), .val (.ref b22), .val (.int (p3 &&& (3 : Int32))), .val (.int (((p3.toUInt32 >>> ((2 : Int32) &&& 31).toUInt32).toInt32) &&& (3 : Int32))), .unset, .unset] [(.int (0 : Int32)), (.int (((p3.toUInt32 >>> ((2 : Int32) &&& 31).toUInt32).toInt32) &&& (3 : Int32))), (.int p4), (.int (p3 &&& (3 : Int32))), (.int p2), (.int p1), (.ref b22)])) _
    refine st52 _ ?_
    show Steps p.tables e below (T52.setTop (mkF m 108 #[.val (.int p1), .val (.int p2), .val (.int p3), .val (.int p4), .val (.int p5), .val (.ref b1), .val (.ref b4), .val (.ref b8), .val (.ref b14), .val (.ref b22), .val (.int (p3 &&& (3 : Int32))), .val (.int (((p3.toUInt32 >>> ((2 : Int32) &&& 31).toUInt32).toInt32) &&& (3 : Int32))), .unset, .unset] [(.int (f4 p1 p2 (p3 &&& (3 : Int32)) p4 (((p3.toUInt32 >>> ((2 : Int32) &&& 31).toUInt32).toInt32) &&& (3 : Int32)) (0 : Int32) (psh (0 : Int32) (p3 &&& (3 : Int32)) p4 p1) (psh (1 : Int32) (p3 &&& (3 : Int32)) p4 (0 : Int32)) (psh (2 : Int32) (p3 &&& (3 : Int32)) p4 (0 : Int32)) (psh (3 : Int32) (p3 &&& (3 : Int32)) p4 p2)))])) _
    refine XS.istore X52.here hx rfl (hb hby at_108) rfl (l' := #[.val (.int p1), .val (.int p2), .val (.int p3), .val (.int p4), .val (.int p5), .val (.ref b1), .val (.ref b4), .val (.ref b8), .val (.ref b14), .val (.ref b22), .val (.int (p3 &&& (3 : Int32))), .val (.int (((p3.toUInt32 >>> ((2 : Int32) &&& 31).toUInt32).toInt32) &&& (3 : Int32))), .val (.int (f4 p1 p2 (p3 &&& (3 : Int32)) p4 (((p3.toUInt32 >>> ((2 : Int32) &&& 31).toUInt32).toInt32) &&& (3 : Int32)) (0 : Int32) (psh (0 : Int32) (p3 &&& (3 : Int32)) p4 p1) (psh (1 : Int32) (p3 &&& (3 : Int32)) p4 (0 : Int32)) (psh (2 : Int32) (p3 &&& (3 : Int32)) p4 (0 : Int32)) (psh (3 : Int32) (p3 &&& (3 : Int32)) p4 p2))), .unset]) rfl ?_
    show Steps p.tables e below (T52.setTop (mkF m 110 #[.val (.int p1), .val (.int p2), .val (.int p3), .val (.int p4), .val (.int p5), .val (.ref b1), .val (.ref b4), .val (.ref b8), .val (.ref b14), .val (.ref b22), .val (.int (p3 &&& (3 : Int32))), .val (.int (((p3.toUInt32 >>> ((2 : Int32) &&& 31).toUInt32).toInt32) &&& (3 : Int32))), .val (.int (f4 p1 p2 (p3 &&& (3 : Int32)) p4 (((p3.toUInt32 >>> ((2 : Int32) &&& 31).toUInt32).toInt32) &&& (3 : Int32)) (0 : Int32) (psh (0 : Int32) (p3 &&& (3 : Int32)) p4 p1) (psh (1 : Int32) (p3 &&& (3 : Int32)) p4 (0 : Int32)) (psh (2 : Int32) (p3 &&& (3 : Int32)) p4 (0 : Int32)) (psh (3 : Int32) (p3 &&& (3 : Int32)) p4 p2))), .unset] [])) _
    refine XS.aload X52.here hx rfl (hb hby at_110) rfl rfl ?_
    show Steps p.tables e below (T52.setTop (mkF m 112 #[.val (.int p1), .val (.int p2), .val (.int p3), .val (.int p4), .val (.int p5), .val (.ref b1), .val (.ref b4), .val (.ref b8), .val (.ref b14), .val (.ref b22), .val (.int (p3 &&& (3 : Int32))), .val (.int (((p3.toUInt32 >>> ((2 : Int32) &&& 31).toUInt32).toInt32) &&& (3 : Int32))), .val (.int (f4 p1 p2 (p3 &&& (3 : Int32)) p4 (((p3.toUInt32 >>> ((2 : Int32) &&& 31).toUInt32).toInt32) &&& (3 : Int32)) (0 : Int32) (psh (0 : Int32) (p3 &&& (3 : Int32)) p4 p1) (psh (1 : Int32) (p3 &&& (3 : Int32)) p4 (0 : Int32)) (psh (2 : Int32) (p3 &&& (3 : Int32)) p4 (0 : Int32)) (psh (3 : Int32) (p3 &&& (3 : Int32)) p4 p2))), .unset] [(.ref b22)])) _
    refine XS.iload X52.here hx rfl (hb hby at_112) rfl ?_
    show Steps p.tables e below (T52.setTop (mkF m 114 #[.val (.int p1), .val (.int p2), .val (.int p3), .val (.int p4), .val (.int p5), .val (.ref b1), .val (.ref b4), .val (.ref b8), .val (.ref b14), .val (.ref b22), .val (.int (p3 &&& (3 : Int32))), .val (.int (((p3.toUInt32 >>> ((2 : Int32) &&& 31).toUInt32).toInt32) &&& (3 : Int32))), .val (.int (f4 p1 p2 (p3 &&& (3 : Int32)) p4 (((p3.toUInt32 >>> ((2 : Int32) &&& 31).toUInt32).toInt32) &&& (3 : Int32)) (0 : Int32) (psh (0 : Int32) (p3 &&& (3 : Int32)) p4 p1) (psh (1 : Int32) (p3 &&& (3 : Int32)) p4 (0 : Int32)) (psh (2 : Int32) (p3 &&& (3 : Int32)) p4 (0 : Int32)) (psh (3 : Int32) (p3 &&& (3 : Int32)) p4 p2))), .unset] [(.int (((p3.toUInt32 >>> ((2 : Int32) &&& 31).toUInt32).toInt32) &&& (3 : Int32))), (.ref b22)])) _
    refine XS.iload X52.here hx rfl (hb hby at_114) rfl ?_
    show Steps p.tables e below (T52.setTop (mkF m 116 #[.val (.int p1), .val (.int p2), .val (.int p3), .val (.int p4), .val (.int p5), .val (.ref b1), .val (.ref b4), .val (.ref b8), .val (.ref b14), .val (.ref b22), .val (.int (p3 &&& (3 : Int32))), .val (.int (((p3.toUInt32 >>> ((2 : Int32) &&& 31).toUInt32).toInt32) &&& (3 : Int32))), .val (.int (f4 p1 p2 (p3 &&& (3 : Int32)) p4 (((p3.toUInt32 >>> ((2 : Int32) &&& 31).toUInt32).toInt32) &&& (3 : Int32)) (0 : Int32) (psh (0 : Int32) (p3 &&& (3 : Int32)) p4 p1) (psh (1 : Int32) (p3 &&& (3 : Int32)) p4 (0 : Int32)) (psh (2 : Int32) (p3 &&& (3 : Int32)) p4 (0 : Int32)) (psh (3 : Int32) (p3 &&& (3 : Int32)) p4 p2))), .unset] [(.int p5), (.int (((p3.toUInt32 >>> ((2 : Int32) &&& 31).toUInt32).toInt32) &&& (3 : Int32))), (.ref b22)])) _
    refine st55.trans ?_
    show Steps p.tables e below (T55.setTop (mkF m 119 #[.val (.int p1), .val (.int p2), .val (.int p3), .val (.int p4), .val (.int p5), .val (.ref b1), .val (.ref b4), .val (.ref b8), .val (.ref b14), .val (.ref b22), .val (.int (p3 &&& (3 : Int32))), .val (.int (((p3.toUInt32 >>> ((2 : Int32) &&& 31).toUInt32).toInt32) &&& (3 : Int32))), .val (.int (f4 p1 p2 (p3 &&& (3 : Int32)) p4 (((p3.toUInt32 >>> ((2 : Int32) &&& 31).toUInt32).toInt32) &&& (3 : Int32)) (0 : Int32) (psh (0 : Int32) (p3 &&& (3 : Int32)) p4 p1) (psh (1 : Int32) (p3 &&& (3 : Int32)) p4 (0 : Int32)) (psh (2 : Int32) (p3 &&& (3 : Int32)) p4 (0 : Int32)) (psh (3 : Int32) (p3 &&& (3 : Int32)) p4 p2))), .unset] [])) _
    refine XS.aload X55.here hx rfl (hb hby at_119) rfl rfl ?_
    show Steps p.tables e below (T55.setTop (mkF m 121 #[.val (.int p1), .val (.int p2), .val (.int p3), .val (.int p4), .val (.int p5), .val (.ref b1), .val (.ref b4), .val (.ref b8), .val (.ref b14), .val (.ref b22), .val (.int (p3 &&& (3 : Int32))), .val (.int (((p3.toUInt32 >>> ((2 : Int32) &&& 31).toUInt32).toInt32) &&& (3 : Int32))), .val (.int (f4 p1 p2 (p3 &&& (3 : Int32)) p4 (((p3.toUInt32 >>> ((2 : Int32) &&& 31).toUInt32).toInt32) &&& (3 : Int32)) (0 : Int32) (psh (0 : Int32) (p3 &&& (3 : Int32)) p4 p1) (psh (1 : Int32) (p3 &&& (3 : Int32)) p4 (0 : Int32)) (psh (2 : Int32) (p3 &&& (3 : Int32)) p4 (0 : Int32)) (psh (3 : Int32) (p3 &&& (3 : Int32)) p4 p2))), .unset] [(.ref b22)])) _
    refine XS.iloadN X55.here hx rfl (hb hby at_121) rfl ?_
    show Steps p.tables e below (T55.setTop (mkF m 122 #[.val (.int p1), .val (.int p2), .val (.int p3), .val (.int p4), .val (.int p5), .val (.ref b1), .val (.ref b4), .val (.ref b8), .val (.ref b14), .val (.ref b22), .val (.int (p3 &&& (3 : Int32))), .val (.int (((p3.toUInt32 >>> ((2 : Int32) &&& 31).toUInt32).toInt32) &&& (3 : Int32))), .val (.int (f4 p1 p2 (p3 &&& (3 : Int32)) p4 (((p3.toUInt32 >>> ((2 : Int32) &&& 31).toUInt32).toInt32) &&& (3 : Int32)) (0 : Int32) (psh (0 : Int32) (p3 &&& (3 : Int32)) p4 p1) (psh (1 : Int32) (p3 &&& (3 : Int32)) p4 (0 : Int32)) (psh (2 : Int32) (p3 &&& (3 : Int32)) p4 (0 : Int32)) (psh (3 : Int32) (p3 &&& (3 : Int32)) p4 p2))), .unset] [(.int p1), (.ref b22)])) _
    refine XS.iloadN X55.here hx rfl (hb hby at_122) rfl ?_
    show Steps p.tables e below (T55.setTop (mkF m 123 #[.val (.int p1), .val (.int p2), .val (.int p3), .val (.int p4), .val (.int p5), .val (.ref b1), .val (.ref b4), .val (.ref b8), .val (.ref b14), .val (.ref b22), .val (.int (p3 &&& (3 : Int32))), .val (.int (((p3.toUInt32 >>> ((2 : Int32) &&& 31).toUInt32).toInt32) &&& (3 : Int32))), .val (.int (f4 p1 p2 (p3 &&& (3 : Int32)) p4 (((p3.toUInt32 >>> ((2 : Int32) &&& 31).toUInt32).toInt32) &&& (3 : Int32)) (0 : Int32) (psh (0 : Int32) (p3 &&& (3 : Int32)) p4 p1) (psh (1 : Int32) (p3 &&& (3 : Int32)) p4 (0 : Int32)) (psh (2 : Int32) (p3 &&& (3 : Int32)) p4 (0 : Int32)) (psh (3 : Int32) (p3 &&& (3 : Int32)) p4 p2))), .unset] [(.int p2), (.int p1), (.ref b22)])) _
    refine XS.iload X55.here hx rfl (hb hby at_123) rfl ?_
    show Steps p.tables e below (T55.setTop (mkF m 125 #[.val (.int p1), .val (.int p2), .val (.int p3), .val (.int p4), .val (.int p5), .val (.ref b1), .val (.ref b4), .val (.ref b8), .val (.ref b14), .val (.ref b22), .val (.int (p3 &&& (3 : Int32))), .val (.int (((p3.toUInt32 >>> ((2 : Int32) &&& 31).toUInt32).toInt32) &&& (3 : Int32))), .val (.int (f4 p1 p2 (p3 &&& (3 : Int32)) p4 (((p3.toUInt32 >>> ((2 : Int32) &&& 31).toUInt32).toInt32) &&& (3 : Int32)) (0 : Int32) (psh (0 : Int32) (p3 &&& (3 : Int32)) p4 p1) (psh (1 : Int32) (p3 &&& (3 : Int32)) p4 (0 : Int32)) (psh (2 : Int32) (p3 &&& (3 : Int32)) p4 (0 : Int32)) (psh (3 : Int32) (p3 &&& (3 : Int32)) p4 p2))), .unset] [(.int (p3 &&& (3 : Int32))), (.int p2), (.int p1), (.ref b22)])) _
    refine XS.iloadN X55.here hx rfl (hb hby at_125) rfl ?_
    show Steps p.tables e below (T55.setTop (mkF m 126 #[.val (.int p1), .val (.int p2), .val (.int p3), .val (.int p4), .val (.int p5), .val (.ref b1), .val (.ref b4), .val (.ref b8), .val (.ref b14), .val (.ref b22), .val (.int (p3 &&& (3 : Int32))), .val (.int (((p3.toUInt32 >>> ((2 : Int32) &&& 31).toUInt32).toInt32) &&& (3 : Int32))), .val (.int (f4 p1 p2 (p3 &&& (3 : Int32)) p4 (((p3.toUInt32 >>> ((2 : Int32) &&& 31).toUInt32).toInt32) &&& (3 : Int32)) (0 : Int32) (psh (0 : Int32) (p3 &&& (3 : Int32)) p4 p1) (psh (1 : Int32) (p3 &&& (3 : Int32)) p4 (0 : Int32)) (psh (2 : Int32) (p3 &&& (3 : Int32)) p4 (0 : Int32)) (psh (3 : Int32) (p3 &&& (3 : Int32)) p4 p2))), .unset] [(.int p4), (.int (p3 &&& (3 : Int32))), (.int p2), (.int p1), (.ref b22)])) _
    refine XS.iload X55.here hx rfl (hb hby at_126) rfl ?_
    show Steps p.tables e below (T55.setTop (mkF m 128 #[.val (.int p1), .val (.int p2), .val (.int p3), .val (.int p4), .val (.int p5), .val (.ref b1), .val (.ref b4), .val (.ref b8), .val (.ref b14), .val (.ref b22), .val (.int (p3 &&& (3 : Int32))), .val (.int (((p3.toUInt32 >>> ((2 : Int32) &&& 31).toUInt32).toInt32) &&& (3 : Int32))), .val (.int (f4 p1 p2 (p3 &&& (3 : Int32)) p4 (((p3.toUInt32 >>> ((2 : Int32) &&& 31).toUInt32).toInt32) &&& (3 : Int32)) (0 : Int32) (psh (0 : Int32) (p3 &&& (3 : Int32)) p4 p1) (psh (1 : Int32) (p3 &&& (3 : Int32)) p4 (0 : Int32)) (psh (2 : Int32) (p3 &&& (3 : Int32)) p4 (0 : Int32)) (psh (3 : Int32) (p3 &&& (3 : Int32)) p4 p2))), .unset] [(.int (((p3.toUInt32 >>> ((2 : Int32) &&& 31).toUInt32).toInt32) &&& (3 : Int32))), (.int p4), (.int (p3 &&& (3 : Int32))), (.int p2), (.int p1), (.ref b22)])) _
    refine XS.iload X55.here hx rfl (hb hby at_128) rfl ?_
    show Steps p.tables e below (T55.setTop (mkF m 130 #[.val (.int p1), .val (.int p2), .val (.int p3), .val (.int p4), .val (.int p5), .val (.ref b1), .val (.ref b4), .val (.ref b8), .val (.ref b14), .val (.ref b22), .val (.int (p3 &&& (3 : Int32))), .val (.int (((p3.toUInt32 >>> ((2 : Int32) &&& 31).toUInt32).toInt32) &&& (3 : Int32))), .val (.int (f4 p1 p2 (p3 &&& (3 : Int32)) p4 (((p3.toUInt32 >>> ((2 : Int32) &&& 31).toUInt32).toInt32) &&& (3 : Int32)) (0 : Int32) (psh (0 : Int32) (p3 &&& (3 : Int32)) p4 p1) (psh (1 : Int32) (p3 &&& (3 : Int32)) p4 (0 : Int32)) (psh (2 : Int32) (p3 &&& (3 : Int32)) p4 (0 : Int32)) (psh (3 : Int32) (p3 &&& (3 : Int32)) p4 p2))), .unset] [(.int p5), (.int (((p3.toUInt32 >>> ((2 : Int32) &&& 31).toUInt32).toInt32) &&& (3 : Int32))), (.int p4), (.int (p3 &&& (3 : Int32))), (.int p2), (.int p1), (.ref b22)])) _
    refine st59 _ ?_
    show Steps p.tables e below (T59.setTop (mkF m 133 #[.val (.int p1), .val (.int p2), .val (.int p3), .val (.int p4), .val (.int p5), .val (.ref b1), .val (.ref b4), .val (.ref b8), .val (.ref b14), .val (.ref b22), .val (.int (p3 &&& (3 : Int32))), .val (.int (((p3.toUInt32 >>> ((2 : Int32) &&& 31).toUInt32).toInt32) &&& (3 : Int32))), .val (.int (f4 p1 p2 (p3 &&& (3 : Int32)) p4 (((p3.toUInt32 >>> ((2 : Int32) &&& 31).toUInt32).toInt32) &&& (3 : Int32)) (0 : Int32) (psh (0 : Int32) (p3 &&& (3 : Int32)) p4 p1) (psh (1 : Int32) (p3 &&& (3 : Int32)) p4 (0 : Int32)) (psh (2 : Int32) (p3 &&& (3 : Int32)) p4 (0 : Int32)) (psh (3 : Int32) (p3 &&& (3 : Int32)) p4 p2))), .unset] [(.int (f4 p1 p2 (p3 &&& (3 : Int32)) p4 (((p3.toUInt32 >>> ((2 : Int32) &&& 31).toUInt32).toInt32) &&& (3 : Int32)) p5 (psh (0 : Int32) (((p3.toUInt32 >>> ((2 : Int32) &&& 31).toUInt32).toInt32) &&& (3 : Int32)) p5 (psh (0 : Int32) (p3 &&& (3 : Int32)) p4 p1)) (psh (1 : Int32) (((p3.toUInt32 >>> ((2 : Int32) &&& 31).toUInt32).toInt32) &&& (3 : Int32)) p5 (psh (1 : Int32) (p3 &&& (3 : Int32)) p4 (0 : Int32))) (psh (2 : Int32) (((p3.toUInt32 >>> ((2 : Int32) &&& 31).toUInt32).toInt32) &&& (3 : Int32)) p5 (psh (2 : Int32) (p3 &&& (3 : Int32)) p4 (0 : Int32))) (psh (3 : Int32) (((p3.toUInt32 >>> ((2 : Int32) &&& 31).toUInt32).toInt32) &&& (3 : Int32)) p5 (psh (3 : Int32) (p3 &&& (3 : Int32)) p4 p2))))])) _
    refine XS.istore X59.here hx rfl (hb hby at_133) rfl (l' := #[.val (.int p1), .val (.int p2), .val (.int p3), .val (.int p4), .val (.int p5), .val (.ref b1), .val (.ref b4), .val (.ref b8), .val (.ref b14), .val (.ref b22), .val (.int (p3 &&& (3 : Int32))), .val (.int (((p3.toUInt32 >>> ((2 : Int32) &&& 31).toUInt32).toInt32) &&& (3 : Int32))), .val (.int (f4 p1 p2 (p3 &&& (3 : Int32)) p4 (((p3.toUInt32 >>> ((2 : Int32) &&& 31).toUInt32).toInt32) &&& (3 : Int32)) (0 : Int32) (psh (0 : Int32) (p3 &&& (3 : Int32)) p4 p1) (psh (1 : Int32) (p3 &&& (3 : Int32)) p4 (0 : Int32)) (psh (2 : Int32) (p3 &&& (3 : Int32)) p4 (0 : Int32)) (psh (3 : Int32) (p3 &&& (3 : Int32)) p4 p2))), .val (.int (f4 p1 p2 (p3 &&& (3 : Int32)) p4 (((p3.toUInt32 >>> ((2 : Int32) &&& 31).toUInt32).toInt32) &&& (3 : Int32)) p5 (psh (0 : Int32) (((p3.toUInt32 >>> ((2 : Int32) &&& 31).toUInt32).toInt32) &&& (3 : Int32)) p5 (psh (0 : Int32) (p3 &&& (3 : Int32)) p4 p1)) (psh (1 : Int32) (((p3.toUInt32 >>> ((2 : Int32) &&& 31).toUInt32).toInt32) &&& (3 : Int32)) p5 (psh (1 : Int32) (p3 &&& (3 : Int32)) p4 (0 : Int32))) (psh (2 : Int32) (((p3.toUInt32 >>> ((2 : Int32) &&& 31).toUInt32).toInt32) &&& (3 : Int32)) p5 (psh (2 : Int32) (p3 &&& (3 : Int32)) p4 (0 : Int32))) (psh (3 : Int32) (((p3.toUInt32 >>> ((2 : Int32) &&& 31).toUInt32).toInt32) &&& (3 : Int32)) p5 (psh (3 : Int32) (p3 &&& (3 : Int32)) p4 p2))))]) rfl ?_
    show Steps p.tables e below (T59.setTop (mkF m 135 #[.val (.int p1), .val (.int p2), .val (.int p3), .val (.int p4), .val (.int p5), .val (.ref b1), .val (.ref b4), .val (.ref b8), .val (.ref b14), .val (.ref b22), .val (.int (p3 &&& (3 : Int32))), .val (.int (((p3.toUInt32 >>> ((2 : Int32) &&& 31).toUInt32).toInt32) &&& (3 : Int32))), .val (.int (f4 p1 p2 (p3 &&& (3 : Int32)) p4 (((p3.toUInt32 >>> ((2 : Int32) &&& 31).toUInt32).toInt32) &&& (3 : Int32)) (0 : Int32) (psh (0 : Int32) (p3 &&& (3 : Int32)) p4 p1) (psh (1 : Int32) (p3 &&& (3 : Int32)) p4 (0 : Int32)) (psh (2 : Int32) (p3 &&& (3 : Int32)) p4 (0 : Int32)) (psh (3 : Int32) (p3 &&& (3 : Int32)) p4 p2))), .val (.int (f4 p1 p2 (p3 &&& (3 : Int32)) p4 (((p3.toUInt32 >>> ((2 : Int32) &&& 31).toUInt32).toInt32) &&& (3 : Int32)) p5 (psh (0 : Int32) (((p3.toUInt32 >>> ((2 : Int32) &&& 31).toUInt32).toInt32) &&& (3 : Int32)) p5 (psh (0 : Int32) (p3 &&& (3 : Int32)) p4 p1)) (psh (1 : Int32) (((p3.toUInt32 >>> ((2 : Int32) &&& 31).toUInt32).toInt32) &&& (3 : Int32)) p5 (psh (1 : Int32) (p3 &&& (3 : Int32)) p4 (0 : Int32))) (psh (2 : Int32) (((p3.toUInt32 >>> ((2 : Int32) &&& 31).toUInt32).toInt32) &&& (3 : Int32)) p5 (psh (2 : Int32) (p3 &&& (3 : Int32)) p4 (0 : Int32))) (psh (3 : Int32) (((p3.toUInt32 >>> ((2 : Int32) &&& 31).toUInt32).toInt32) &&& (3 : Int32)) p5 (psh (3 : Int32) (p3 &&& (3 : Int32)) p4 p2))))] [])) _
    refine XS.iload X59.here hx rfl (hb hby at_135) rfl ?_
    exact k)
  by_cases hc61 : (f4 p1 p2 (p3 &&& (3 : Int32)) p4 (((p3.toUInt32 >>> ((2 : Int32) &&& 31).toUInt32).toInt32) &&& (3 : Int32)) (0 : Int32) (psh (0 : Int32) (p3 &&& (3 : Int32)) p4 p1) (psh (1 : Int32) (p3 &&& (3 : Int32)) p4 (0 : Int32)) (psh (2 : Int32) (p3 &&& (3 : Int32)) p4 (0 : Int32)) (psh (3 : Int32) (p3 &&& (3 : Int32)) p4 p2)) = (0 : Int32)
  · obtain ⟨fs, hr, hrun, hended, hW, hsame⟩ := X59.leave (v := some (.int (0 : Int32))) (fun h => by rw [Bd.returns] at h; cases h)
    refine ⟨_, _, pre60 _ ?_, hrun, hended, _, _, rfl, ?_, ⟨_, rfl⟩, hW, hsame.mono (by decide) (by decide)⟩
    · show Steps p.tables e below (T59.setTop (mkF m 137 #[.val (.int p1), .val (.int p2), .val (.int p3), .val (.int p4), .val (.int p5), .val (.ref b1), .val (.ref b4), .val (.ref b8), .val (.ref b14), .val (.ref b22), .val (.int (p3 &&& (3 : Int32))), .val (.int (((p3.toUInt32 >>> ((2 : Int32) &&& 31).toUInt32).toInt32) &&& (3 : Int32))), .val (.int (f4 p1 p2 (p3 &&& (3 : Int32)) p4 (((p3.toUInt32 >>> ((2 : Int32) &&& 31).toUInt32).toInt32) &&& (3 : Int32)) (0 : Int32) (psh (0 : Int32) (p3 &&& (3 : Int32)) p4 p1) (psh (1 : Int32) (p3 &&& (3 : Int32)) p4 (0 : Int32)) (psh (2 : Int32) (p3 &&& (3 : Int32)) p4 (0 : Int32)) (psh (3 : Int32) (p3 &&& (3 : Int32)) p4 p2))), .val (.int (f4 p1 p2 (p3 &&& (3 : Int32)) p4 (((p3.toUInt32 >>> ((2 : Int32) &&& 31).toUInt32).toInt32) &&& (3 : Int32)) p5 (psh (0 : Int32) (((p3.toUInt32 >>> ((2 : Int32) &&& 31).toUInt32).toInt32) &&& (3 : Int32)) p5 (psh (0 : Int32) (p3 &&& (3 : Int32)) p4 p1)) (psh (1 : Int32) (((p3.toUInt32 >>> ((2 : Int32) &&& 31).toUInt32).toInt32) &&& (3 : Int32)) p5 (psh (1 : Int32) (p3 &&& (3 : Int32)) p4 (0 : Int32))) (psh (2 : Int32) (((p3.toUInt32 >>> ((2 : Int32) &&& 31).toUInt32).toInt32) &&& (3 : Int32)) p5 (psh (2 : Int32) (p3 &&& (3 : Int32)) p4 (0 : Int32))) (psh (3 : Int32) (((p3.toUInt32 >>> ((2 : Int32) &&& 31).toUInt32).toInt32) &&& (3 : Int32)) p5 (psh (3 : Int32) (p3 &&& (3 : Int32)) p4 p2))))] [(.int (f4 p1 p2 (p3 &&& (3 : Int32)) p4 (((p3.toUInt32 >>> ((2 : Int32) &&& 31).toUInt32).toInt32) &&& (3 : Int32)) (0 : Int32) (psh (0 : Int32) (p3 &&& (3 : Int32)) p4 p1) (psh (1 : Int32) (p3 &&& (3 : Int32)) p4 (0 : Int32)) (psh (2 : Int32) (p3 &&& (3 : Int32)) p4 (0 : Int32)) (psh (3 : Int32) (p3 &&& (3 : Int32)) p4 p2)))])) _
      refine XS.ifYes X59.here hx rfl (pc0 := 137) (pc' := 149) rfl (hb hby at_137) rfl ((if0 _ _).trans (teq hc61).1) (by decide) (by decide) ?_
      show Steps p.tables e below (T59.setTop (mkF m 149 #[.val (.int p1), .val (.int p2), .val (.int p3), .val (.int p4), .val (.int p5), .val (.ref b1), .val (.ref b4), .val (.ref b8), .val (.ref b14), .val (.ref b22), .val (.int (p3 &&& (3 : Int32))), .val (.int (((p3.toUInt32 >>> ((2 : Int32) &&& 31).toUInt32).toInt32) &&& (3 : Int32))), .val (.int (f4 p1 p2 (p3 &&& (3 : Int32)) p4 (((p3.toUInt32 >>> ((2 : Int32) &&& 31).toUInt32).toInt32) &&& (3 : Int32)) (0 : Int32) (psh (0 : Int32) (p3 &&& (3 : Int32)) p4 p1) (psh (1 : Int32) (p3 &&& (3 : Int32)) p4 (0 : Int32)) (psh (2 : Int32) (p3 &&& (3 : Int32)) p4 (0 : Int32)) (psh (3 : Int32) (p3 &&& (3 : Int32)) p4 p2))), .val (.int (f4 p1 p2 (p3 &&& (3 : Int32)) p4 (((p3.toUInt32 >>> ((2 : Int32) &&& 31).toUInt32).toInt32) &&& (3 : Int32)) p5 (psh (0 : Int32) (((p3.toUInt32 >>> ((2 : Int32) &&& 31).toUInt32).toInt32) &&& (3 : Int32)) p5 (psh (0 : Int32) (p3 &&& (3 : Int32)) p4 p1)) (psh (1 : Int32) (((p3.toUInt32 >>> ((2 : Int32) &&& 31).toUInt32).toInt32) &&& (3 : Int32)) p5 (psh (1 : Int32) (p3 &&& (3 : Int32)) p4 (0 : Int32))) (psh (2 : Int32) (((p3.toUInt32 >>> ((2 : Int32) &&& 31).toUInt32).toInt32) &&& (3 : Int32)) p5 (psh (2 : Int32) (p3 &&& (3 : Int32)) p4 (0 : Int32))) (psh (3 : Int32) (((p3.toUInt32 >>> ((2 : Int32) &&& 31).toUInt32).toInt32) &&& (3 : Int32)) p5 (psh (3 : Int32) (p3 &&& (3 : Int32)) p4 p2))))] [])) _
      refine XS.iconst X59.here hx rfl (hb hby at_149) ?_
      show Steps p.tables e below (T59.setTop (mkF m 150 #[.val (.int p1), .val (.int p2), .val (.int p3), .val (.int p4), .val (.int p5), .val (.ref b1), .val (.ref b4), .val (.ref b8), .val (.ref b14), .val (.ref b22), .val (.int (p3 &&& (3 : Int32))), .val (.int (((p3.toUInt32 >>> ((2 : Int32) &&& 31).toUInt32).toInt32) &&& (3 : Int32))), .val (.int (f4 p1 p2 (p3 &&& (3 : Int32)) p4 (((p3.toUInt32 >>> ((2 : Int32) &&& 31).toUInt32).toInt32) &&& (3 : Int32)) (0 : Int32) (psh (0 : Int32) (p3 &&& (3 : Int32)) p4 p1) (psh (1 : Int32) (p3 &&& (3 : Int32)) p4 (0 : Int32)) (psh (2 : Int32) (p3 &&& (3 : Int32)) p4 (0 : Int32)) (psh (3 : Int32) (p3 &&& (3 : Int32)) p4 p2))), .val (.int (f4 p1 p2 (p3 &&& (3 : Int32)) p4 (((p3.toUInt32 >>> ((2 : Int32) &&& 31).toUInt32).toInt32) &&& (3 : Int32)) p5 (psh (0 : Int32) (((p3.toUInt32 >>> ((2 : Int32) &&& 31).toUInt32).toInt32) &&& (3 : Int32)) p5 (psh (0 : Int32) (p3 &&& (3 : Int32)) p4 p1)) (psh (1 : Int32) (((p3.toUInt32 >>> ((2 : Int32) &&& 31).toUInt32).toInt32) &&& (3 : Int32)) p5 (psh (1 : Int32) (p3 &&& (3 : Int32)) p4 (0 : Int32))) (psh (2 : Int32) (((p3.toUInt32 >>> ((2 : Int32) &&& 31).toUInt32).toInt32) &&& (3 : Int32)) p5 (psh (2 : Int32) (p3 &&& (3 : Int32)) p4 (0 : Int32))) (psh (3 : Int32) (((p3.toUInt32 >>> ((2 : Int32) &&& 31).toUInt32).toInt32) &&& (3 : Int32)) p5 (psh (3 : Int32) (p3 &&& (3 : Int32)) p4 p2))))] [(.int (0 : Int32))])) _
      exact retN X59 hx (t := .boolean) Bd.returns (by simp) (hb hby at_150) hr
    · show Q0 Z p1 p2 p3 p4 p5 h0 n0 _ T59.heap _
      rw [e59]
      exact ⟨by rw [show (f0 p1 p2 p3 p4 p5) = (0 : Int32) from by first | (rw [f0, if_pos hc61]; done) | (simp only [f0, if_pos hc61]; done) | rfl], N59⟩
  · have pre63 : ∀ t, Steps p.tables e below (T59.setTop (mkF m 142 #[.val (.int p1), .val (.int p2), .val (.int p3), .val (.int p4), .val (.int p5), .val (.ref b1), .val (.ref b4), .val (.ref b8), .val (.ref b14), .val (.ref b22), .val (.int (p3 &&& (3 : Int32))), .val (.int (((p3.toUInt32 >>> ((2 : Int32) &&& 31).toUInt32).toInt32) &&& (3 : Int32))), .val (.int (f4 p1 p2 (p3 &&& (3 : Int32)) p4 (((p3.toUInt32 >>> ((2 : Int32) &&& 31).toUInt32).toInt32) &&& (3 : Int32)) (0 : Int32) (psh (0 : Int32) (p3 &&& (3 : Int32)) p4 p1) (psh (1 : Int32) (p3 &&& (3 : Int32)) p4 (0 : Int32)) (psh (2 : Int32) (p3 &&& (3 : Int32)) p4 (0 : Int32)) (psh (3 : Int32) (p3 &&& (3 : Int32)) p4 p2))), .val (.int (f4 p1 p2 (p3 &&& (3 : Int32)) p4 (((p3.toUInt32 >>> ((2 : Int32) &&& 31).toUInt32).toInt32) &&& (3 : Int32)) p5 (psh (0 : Int32) (((p3.toUInt32 >>> ((2 : Int32) &&& 31).toUInt32).toInt32) &&& (3 : Int32)) p5 (psh (0 : Int32) (p3 &&& (3 : Int32)) p4 p1)) (psh (1 : Int32) (((p3.toUInt32 >>> ((2 : Int32) &&& 31).toUInt32).toInt32) &&& (3 : Int32)) p5 (psh (1 : Int32) (p3 &&& (3 : Int32)) p4 (0 : Int32))) (psh (2 : Int32) (((p3.toUInt32 >>> ((2 : Int32) &&& 31).toUInt32).toInt32) &&& (3 : Int32)) p5 (psh (2 : Int32) (p3 &&& (3 : Int32)) p4 (0 : Int32))) (psh (3 : Int32) (((p3.toUInt32 >>> ((2 : Int32) &&& 31).toUInt32).toInt32) &&& (3 : Int32)) p5 (psh (3 : Int32) (p3 &&& (3 : Int32)) p4 p2))))] [(.int (f4 p1 p2 (p3 &&& (3 : Int32)) p4 (((p3.toUInt32 >>> ((2 : Int32) &&& 31).toUInt32).toInt32) &&& (3 : Int32)) p5 (psh (0 : Int32) (((p3.toUInt32 >>> ((2 : Int32) &&& 31).toUInt32).toInt32) &&& (3 : Int32)) p5 (psh (0 : Int32) (p3 &&& (3 : Int32)) p4 p1)) (psh (1 : Int32) (((p3.toUInt32 >>> ((2 : Int32) &&& 31).toUInt32).toInt32) &&& (3 : Int32)) p5 (psh (1 : Int32) (p3 &&& (3 : Int32)) p4 (0 : Int32))) (psh (2 : Int32) (((p3.toUInt32 >>> ((2 : Int32) &&& 31).toUInt32).toInt32) &&& (3 : Int32)) p5 (psh (2 : Int32) (p3 &&& (3 : Int32)) p4 (0 : Int32))) (psh (3 : Int32) (((p3.toUInt32 >>> ((2 : Int32) &&& 31).toUInt32).toInt32) &&& (3 : Int32)) p5 (psh (3 : Int32) (p3 &&& (3 : Int32)) p4 p2))))])) t → Steps p.tables e below (s₁.setTop (entryFrame m #[(.int p1), (.int p2), (.int p3), (.int p4), (.int p5)] maxLocals)) t := fun t k => pre60 t (by
      show Steps p.tables e below (T59.setTop (mkF m 137 #[.val (.int p1), .val (.int p2), .val (.int p3), .val (.int p4), .val (.int p5), .val (.ref b1), .val (.ref b4), .val (.ref b8), .val (.ref b14), .val (.ref b22), .val (.int (p3 &&& (3 : Int32))), .val (.int (((p3.toUInt32 >>> ((2 : Int32) &&& 31).toUInt32).toInt32) &&& (3 : Int32))), .val (.int (f4 p1 p2 (p3 &&& (3 : Int32)) p4 (((p3.toUInt32 >>> ((2 : Int32) &&& 31).toUInt32).toInt32) &&& (3 : Int32)) (0 : Int32) (psh (0 : Int32) (p3 &&& (3 : Int32)) p4 p1) (psh (1 : Int32) (p3 &&& (3 : Int32)) p4 (0 : Int32)) (psh (2 : Int32) (p3 &&& (3 : Int32)) p4 (0 : Int32)) (psh (3 : Int32) (p3 &&& (3 : Int32)) p4 p2))), .val (.int (f4 p1 p2 (p3 &&& (3 : Int32)) p4 (((p3.toUInt32 >>> ((2 : Int32) &&& 31).toUInt32).toInt32) &&& (3 : Int32)) p5 (psh (0 : Int32) (((p3.toUInt32 >>> ((2 : Int32) &&& 31).toUInt32).toInt32) &&& (3 : Int32)) p5 (psh (0 : Int32) (p3 &&& (3 : Int32)) p4 p1)) (psh (1 : Int32) (((p3.toUInt32 >>> ((2 : Int32) &&& 31).toUInt32).toInt32) &&& (3 : Int32)) p5 (psh (1 : Int32) (p3 &&& (3 : Int32)) p4 (0 : Int32))) (psh (2 : Int32) (((p3.toUInt32 >>> ((2 : Int32) &&& 31).toUInt32).toInt32) &&& (3 : Int32)) p5 (psh (2 : Int32) (p3 &&& (3 : Int32)) p4 (0 : Int32))) (psh (3 : Int32) (((p3.toUInt32 >>> ((2 : Int32) &&& 31).toUInt32).toInt32) &&& (3 : Int32)) p5 (psh (3 : Int32) (p3 &&& (3 : Int32)) p4 p2))))] [(.int (f4 p1 p2 (p3 &&& (3 : Int32)) p4 (((p3.toUInt32 >>> ((2 : Int32) &&& 31).toUInt32).toInt32) &&& (3 : Int32)) (0 : Int32) (psh (0 : Int32) (p3 &&& (3 : Int32)) p4 p1) (psh (1 : Int32) (p3 &&& (3 : Int32)) p4 (0 : Int32)) (psh (2 : Int32) (p3 &&& (3 : Int32)) p4 (0 : Int32)) (psh (3 : Int32) (p3 &&& (3 : Int32)) p4 p2)))])) _
      refine XS.ifNo X59.here hx rfl (hb hby at_137) rfl ((if0 _ _).trans (feq hc61).1) ?_
      show Steps p.tables e below (T59.setTop (mkF m 140 #[.val (.int p1), .val (.int p2), .val (.int p3), .val (.int p4), .val (.int p5), .val (.ref b1), .val (.ref b4), .val (.ref b8), .val (.ref b14), .val (.ref b22), .val (.int (p3 &&& (3 : Int32))), .val (.int (((p3.toUInt32 >>> ((2 : Int32) &&& 31).toUInt32).toInt32) &&& (3 : Int32))), .val (.int (f4 p1 p2 (p3 &&& (3 : Int32)) p4 (((p3.toUInt32 >>> ((2 : Int32) &&& 31).toUInt32).toInt32) &&& (3 : Int32)) (0 : Int32) (psh (0 : Int32) (p3 &&& (3 : Int32)) p4 p1) (psh (1 : Int32) (p3 &&& (3 : Int32)) p4 (0 : Int32)) (psh (2 : Int32) (p3 &&& (3 : Int32)) p4 (0 : Int32)) (psh (3 : Int32) (p3 &&& (3 : Int32)) p4 p2))), .val (.int (f4 p1 p2 (p3 &&& (3 : Int32)) p4 (((p3.toUInt32 >>> ((2 : Int32) &&& 31).toUInt32).toInt32) &&& (3 : Int32)) p5 (psh (0 : Int32) (((p3.toUInt32 >>> ((2 : Int32) &&& 31).toUInt32).toInt32) &&& (3 : Int32)) p5 (psh (0 : Int32) (p3 &&& (3 : Int32)) p4 p1)) (psh (1 : Int32) (((p3.toUInt32 >>> ((2 : Int32) &&& 31).toUInt32).toInt32) &&& (3 : Int32)) p5 (psh (1 : Int32) (p3 &&& (3 : Int32)) p4 (0 : Int32))) (psh (2 : Int32) (((p3.toUInt32 >>> ((2 : Int32) &&& 31).toUInt32).toInt32) &&& (3 : Int32)) p5 (psh (2 : Int32) (p3 &&& (3 : Int32)) p4 (0 : Int32))) (psh (3 : Int32) (((p3.toUInt32 >>> ((2 : Int32) &&& 31).toUInt32).toInt32) &&& (3 : Int32)) p5 (psh (3 : Int32) (p3 &&& (3 : Int32)) p4 p2))))] [])) _
      refine XS.iload X59.here hx rfl (hb hby at_140) rfl ?_
      exact k)
    by_cases hc64 : (f4 p1 p2 (p3 &&& (3 : Int32)) p4 (((p3.toUInt32 >>> ((2 : Int32) &&& 31).toUInt32).toInt32) &&& (3 : Int32)) p5 (psh (0 : Int32) (((p3.toUInt32 >>> ((2 : Int32) &&& 31).toUInt32).toInt32) &&& (3 : Int32)) p5 (psh (0 : Int32) (p3 &&& (3 : Int32)) p4 p1)) (psh (1 : Int32) (((p3.toUInt32 >>> ((2 : Int32) &&& 31).toUInt32).toInt32) &&& (3 : Int32)) p5 (psh (1 : Int32) (p3 &&& (3 : Int32)) p4 (0 : Int32))) (psh (2 : Int32) (((p3.toUInt32 >>> ((2 : Int32) &&& 31).toUInt32).toInt32) &&& (3 : Int32)) p5 (psh (2 : Int32) (p3 &&& (3 : Int32)) p4 (0 : Int32))) (psh (3 : Int32) (((p3.toUInt32 >>> ((2 : Int32) &&& 31).toUInt32).toInt32) &&& (3 : Int32)) p5 (psh (3 : Int32) (p3 &&& (3 : Int32)) p4 p2))) = (0 : Int32)
    · obtain ⟨fs, hr, hrun, hended, hW, hsame⟩ := X59.leave (v := some (.int (0 : Int32))) (fun h => by rw [Bd.returns] at h; cases h)
      refine ⟨_, _, pre63 _ ?_, hrun, hended, _, _, rfl, ?_, ⟨_, rfl⟩, hW, hsame.mono (by decide) (by decide)⟩
      · show Steps p.tables e below (T59.setTop (mkF m 142 #[.val (.int p1), .val (.int p2), .val (.int p3), .val (.int p4), .val (.int p5), .val (.ref b1), .val (.ref b4), .val (.ref b8), .val (.ref b14), .val (.ref b22), .val (.int (p3 &&& (3 : Int32))), .val (.int (((p3.toUInt32 >>> ((2 : Int32) &&& 31).toUInt32).toInt32) &&& (3 : Int32))), .val (.int (f4 p1 p2 (p3 &&& (3 : Int32)) p4 (((p3.toUInt32 >>> ((2 : Int32) &&& 31).toUInt32).toInt32) &&& (3 : Int32)) (0 : Int32) (psh (0 : Int32) (p3 &&& (3 : Int32)) p4 p1) (psh (1 : Int32) (p3 &&& (3 : Int32)) p4 (0 : Int32)) (psh (2 : Int32) (p3 &&& (3 : Int32)) p4 (0 : Int32)) (psh (3 : Int32) (p3 &&& (3 : Int32)) p4 p2))), .val (.int (f4 p1 p2 (p3 &&& (3 : Int32)) p4 (((p3.toUInt32 >>> ((2 : Int32) &&& 31).toUInt32).toInt32) &&& (3 : Int32)) p5 (psh (0 : Int32) (((p3.toUInt32 >>> ((2 : Int32) &&& 31).toUInt32).toInt32) &&& (3 : Int32)) p5 (psh (0 : Int32) (p3 &&& (3 : Int32)) p4 p1)) (psh (1 : Int32) (((p3.toUInt32 >>> ((2 : Int32) &&& 31).toUInt32).toInt32) &&& (3 : Int32)) p5 (psh (1 : Int32) (p3 &&& (3 : Int32)) p4 (0 : Int32))) (psh (2 : Int32) (((p3.toUInt32 >>> ((2 : Int32) &&& 31).toUInt32).toInt32) &&& (3 : Int32)) p5 (psh (2 : Int32) (p3 &&& (3 : Int32)) p4 (0 : Int32))) (psh (3 : Int32) (((p3.toUInt32 >>> ((2 : Int32) &&& 31).toUInt32).toInt32) &&& (3 : Int32)) p5 (psh (3 : Int32) (p3 &&& (3 : Int32)) p4 p2))))] [(.int (f4 p1 p2 (p3 &&& (3 : Int32)) p4 (((p3.toUInt32 >>> ((2 : Int32) &&& 31).toUInt32).toInt32) &&& (3 : Int32)) p5 (psh (0 : Int32) (((p3.toUInt32 >>> ((2 : Int32) &&& 31).toUInt32).toInt32) &&& (3 : Int32)) p5 (psh (0 : Int32) (p3 &&& (3 : Int32)) p4 p1)) (psh (1 : Int32) (((p3.toUInt32 >>> ((2 : Int32) &&& 31).toUInt32).toInt32) &&& (3 : Int32)) p5 (psh (1 : Int32) (p3 &&& (3 : Int32)) p4 (0 : Int32))) (psh (2 : Int32) (((p3.toUInt32 >>> ((2 : Int32) &&& 31).toUInt32).toInt32) &&& (3 : Int32)) p5 (psh (2 : Int32) (p3 &&& (3 : Int32)) p4 (0 : Int32))) (psh (3 : Int32) (((p3.toUInt32 >>> ((2 : Int32) &&& 31).toUInt32).toInt32) &&& (3 : Int32)) p5 (psh (3 : Int32) (p3 &&& (3 : Int32)) p4 p2))))])) _
        refine XS.ifYes X59.here hx rfl (pc0 := 142) (pc' := 149) rfl (hb hby at_142) rfl ((if0 _ _).trans (teq hc64).1) (by decide) (by decide) ?_
        show Steps p.tables e below (T59.setTop (mkF m 149 #[.val (.int p1), .val (.int p2), .val (.int p3), .val (.int p4), .val (.int p5), .val (.ref b1), .val (.ref b4), .val (.ref b8), .val (.ref b14), .val (.ref b22), .val (.int (p3 &&& (3 : Int32))), .val (.int (((p3.toUInt32 >>> ((2 : Int32) &&& 31).toUInt32).toInt32) &&& (3 : Int32))), .val (.int (f4 p1 p2 (p3 &&& (3 : Int32)) p4 (((p3.toUInt32 >>> ((2 : Int32) &&& 31).toUInt32).toInt32) &&& (3 : Int32)) (0 : Int32) (psh (0 : Int32) (p3 &&& (3 : Int32)) p4 p1) (psh (1 : Int32) (p3 &&& (3 : Int32)) p4 (0 : Int32)) (psh (2 : Int32) (p3 &&& (3 : Int32)) p4 (0 : Int32)) (psh (3 : Int32) (p3 &&& (3 : Int32)) p4 p2))), .val (.int (f4 p1 p2 (p3 &&& (3 : Int32)) p4 (((p3.toUInt32 >>> ((2 : Int32) &&& 31).toUInt32).toInt32) &&& (3 : Int32)) p5 (psh (0 : Int32) (((p3.toUInt32 >>> ((2 : Int32) &&& 31).toUInt32).toInt32) &&& (3 : Int32)) p5 (psh (0 : Int32) (p3 &&& (3 : Int32)) p4 p1)) (psh (1 : Int32) (((p3.toUInt32 >>> ((2 : Int32) &&& 31).toUInt32).toInt32) &&& (3 : Int32)) p5 (psh (1 : Int32) (p3 &&& (3 : Int32)) p4 (0 : Int32))) (psh (2 : Int32) (((p3.toUInt32 >>> ((2 : Int32) &&& 31).toUInt32).toInt32) &&& (3 : Int32)) p5 (psh (2 : Int32) (p3 &&& (3 : Int32)) p4 (0 : Int32))) (psh (3 : Int32) (((p3.toUInt32 >>> ((2 : Int32) &&& 31).toUInt32).toInt32) &&& (3 : Int32)) p5 (psh (3 : Int32) (p3 &&& (3 : Int32)) p4 p2))))] [])) _
        refine XS.iconst X59.here hx rfl (hb hby at_149) ?_
        show Steps p.tables e below (T59.setTop (mkF m 150 #[.val (.int p1), .val (.int p2), .val (.int p3), .val (.int p4), .val (.int p5), .val (.ref b1), .val (.ref b4), .val (.ref b8), .val (.ref b14), .val (.ref b22), .val (.int (p3 &&& (3 : Int32))), .val (.int (((p3.toUInt32 >>> ((2 : Int32) &&& 31).toUInt32).toInt32) &&& (3 : Int32))), .val (.int (f4 p1 p2 (p3 &&& (3 : Int32)) p4 (((p3.toUInt32 >>> ((2 : Int32) &&& 31).toUInt32).toInt32) &&& (3 : Int32)) (0 : Int32) (psh (0 : Int32) (p3 &&& (3 : Int32)) p4 p1) (psh (1 : Int32) (p3 &&& (3 : Int32)) p4 (0 : Int32)) (psh (2 : Int32) (p3 &&& (3 : Int32)) p4 (0 : Int32)) (psh (3 : Int32) (p3 &&& (3 : Int32)) p4 p2))), .val (.int (f4 p1 p2 (p3 &&& (3 : Int32)) p4 (((p3.toUInt32 >>> ((2 : Int32) &&& 31).toUInt32).toInt32) &&& (3 : Int32)) p5 (psh (0 : Int32) (((p3.toUInt32 >>> ((2 : Int32) &&& 31).toUInt32).toInt32) &&& (3 : Int32)) p5 (psh (0 : Int32) (p3 &&& (3 : Int32)) p4 p1)) (psh (1 : Int32) (((p3.toUInt32 >>> ((2 : Int32) &&& 31).toUInt32).toInt32) &&& (3 : Int32)) p5 (psh (1 : Int32) (p3 &&& (3 : Int32)) p4 (0 : Int32))) (psh (2 : Int32) (((p3.toUInt32 >>> ((2 : Int32) &&& 31).toUInt32).toInt32) &&& (3 : Int32)) p5 (psh (2 : Int32) (p3 &&& (3 : Int32)) p4 (0 : Int32))) (psh (3 : Int32) (((p3.toUInt32 >>> ((2 : Int32) &&& 31).toUInt32).toInt32) &&& (3 : Int32)) p5 (psh (3 : Int32) (p3 &&& (3 : Int32)) p4 p2))))] [(.int (0 : Int32))])) _
        exact retN X59 hx (t := .boolean) Bd.returns (by simp) (hb hby at_150) hr
      · show Q0 Z p1 p2 p3 p4 p5 h0 n0 _ T59.heap _
        rw [e59]
        exact ⟨by rw [show (f0 p1 p2 p3 p4 p5) = (0 : Int32) from by first | (rw [f0, if_neg hc61, if_pos hc64]; done) | (simp only [f0, if_neg hc61, if_pos hc64]; done) | rfl], N59⟩
    · obtain ⟨fs, hr, hrun, hended, hW, hsame⟩ := X59.leave (v := some (.int (1 : Int32))) (fun h => by rw [Bd.returns] at h; cases h)
      refine ⟨_, _, pre63 _ ?_, hrun, hended, _, _, rfl, ?_, ⟨_, rfl⟩, hW, hsame.mono (by decide) (by decide)⟩
      · show Steps p.tables e below (T59.setTop (mkF m 142 #[.val (.int p1), .val (.int p2), .val (.int p3), .val (.int p4), .val (.int p5), .val (.ref b1), .val (.ref b4), .val (.ref b8), .val (.ref b14), .val (.ref b22), .val (.int (p3 &&& (3 : Int32))), .val (.int (((p3.toUInt32 >>> ((2 : Int32) &&& 31).toUInt32).toInt32) &&& (3 : Int32))), .val (.int (f4 p1 p2 (p3 &&& (3 : Int32)) p4 (((p3.toUInt32 >>> ((2 : Int32) &&& 31).toUInt32).toInt32) &&& (3 : Int32)) (0 : Int32) (psh (0 : Int32) (p3 &&& (3 : Int32)) p4 p1) (psh (1 : Int32) (p3 &&& (3 : Int32)) p4 (0 : Int32)) (psh (2 : Int32) (p3 &&& (3 : Int32)) p4 (0 : Int32)) (psh (3 : Int32) (p3 &&& (3 : Int32)) p4 p2))), .val (.int (f4 p1 p2 (p3 &&& (3 : Int32)) p4 (((p3.toUInt32 >>> ((2 : Int32) &&& 31).toUInt32).toInt32) &&& (3 : Int32)) p5 (psh (0 : Int32) (((p3.toUInt32 >>> ((2 : Int32) &&& 31).toUInt32).toInt32) &&& (3 : Int32)) p5 (psh (0 : Int32) (p3 &&& (3 : Int32)) p4 p1)) (psh (1 : Int32) (((p3.toUInt32 >>> ((2 : Int32) &&& 31).toUInt32).toInt32) &&& (3 : Int32)) p5 (psh (1 : Int32) (p3 &&& (3 : Int32)) p4 (0 : Int32))) (psh (2 : Int32) (((p3.toUInt32 >>> ((2 : Int32) &&& 31).toUInt32).toInt32) &&& (3 : Int32)) p5 (psh (2 : Int32) (p3 &&& (3 : Int32)) p4 (0 : Int32))) (psh (3 : Int32) (((p3.toUInt32 >>> ((2 : Int32) &&& 31).toUInt32).toInt32) &&& (3 : Int32)) p5 (psh (3 : Int32) (p3 &&& (3 : Int32)) p4 p2))))] [(.int (f4 p1 p2 (p3 &&& (3 : Int32)) p4 (((p3.toUInt32 >>> ((2 : Int32) &&& 31).toUInt32).toInt32) &&& (3 : Int32)) p5 (psh (0 : Int32) (((p3.toUInt32 >>> ((2 : Int32) &&& 31).toUInt32).toInt32) &&& (3 : Int32)) p5 (psh (0 : Int32) (p3 &&& (3 : Int32)) p4 p1)) (psh (1 : Int32) (((p3.toUInt32 >>> ((2 : Int32) &&& 31).toUInt32).toInt32) &&& (3 : Int32)) p5 (psh (1 : Int32) (p3 &&& (3 : Int32)) p4 (0 : Int32))) (psh (2 : Int32) (((p3.toUInt32 >>> ((2 : Int32) &&& 31).toUInt32).toInt32) &&& (3 : Int32)) p5 (psh (2 : Int32) (p3 &&& (3 : Int32)) p4 (0 : Int32))) (psh (3 : Int32) (((p3.toUInt32 >>> ((2 : Int32) &&& 31).toUInt32).toInt32) &&& (3 : Int32)) p5 (psh (3 : Int32) (p3 &&& (3 : Int32)) p4 p2))))])) _
        refine XS.ifNo X59.here hx rfl (hb hby at_142) rfl ((if0 _ _).trans (feq hc64).1) ?_
        show Steps p.tables e below (T59.setTop (mkF m 145 #[.val (.int p1), .val (.int p2), .val (.int p3), .val (.int p4), .val (.int p5), .val (.ref b1), .val (.ref b4), .val (.ref b8), .val (.ref b14), .val (.ref b22), .val (.int (p3 &&& (3 : Int32))), .val (.int (((p3.toUInt32 >>> ((2 : Int32) &&& 31).toUInt32).toInt32) &&& (3 : Int32))), .val (.int (f4 p1 p2 (p3 &&& (3 : Int32)) p4 (((p3.toUInt32 >>> ((2 : Int32) &&& 31).toUInt32).toInt32) &&& (3 : Int32)) (0 : Int32) (psh (0 : Int32) (p3 &&& (3 : Int32)) p4 p1) (psh (1 : Int32) (p3 &&& (3 : Int32)) p4 (0 : Int32)) (psh (2 : Int32) (p3 &&& (3 : Int32)) p4 (0 : Int32)) (psh (3 : Int32) (p3 &&& (3 : Int32)) p4 p2))), .val (.int (f4 p1 p2 (p3 &&& (3 : Int32)) p4 (((p3.toUInt32 >>> ((2 : Int32) &&& 31).toUInt32).toInt32) &&& (3 : Int32)) p5 (psh (0 : Int32) (((p3.toUInt32 >>> ((2 : Int32) &&& 31).toUInt32).toInt32) &&& (3 : Int32)) p5 (psh (0 : Int32) (p3 &&& (3 : Int32)) p4 p1)) (psh (1 : Int32) (((p3.toUInt32 >>> ((2 : Int32) &&& 31).toUInt32).toInt32) &&& (3 : Int32)) p5 (psh (1 : Int32) (p3 &&& (3 : Int32)) p4 (0 : Int32))) (psh (2 : Int32) (((p3.toUInt32 >>> ((2 : Int32) &&& 31).toUInt32).toInt32) &&& (3 : Int32)) p5 (psh (2 : Int32) (p3 &&& (3 : Int32)) p4 (0 : Int32))) (psh (3 : Int32) (((p3.toUInt32 >>> ((2 : Int32) &&& 31).toUInt32).toInt32) &&& (3 : Int32)) p5 (psh (3 : Int32) (p3 &&& (3 : Int32)) p4 p2))))] [])) _
        refine XS.iconst X59.here hx rfl (hb hby at_145) ?_
        show Steps p.tables e below (T59.setTop (mkF m 146 #[.val (.int p1), .val (.int p2), .val (.int p3), .val (.int p4), .val (.int p5), .val (.ref b1), .val (.ref b4), .val (.ref b8), .val (.ref b14), .val (.ref b22), .val (.int (p3 &&& (3 : Int32))), .val (.int (((p3.toUInt32 >>> ((2 : Int32) &&& 31).toUInt32).toInt32) &&& (3 : Int32))), .val (.int (f4 p1 p2 (p3 &&& (3 : Int32)) p4 (((p3.toUInt32 >>> ((2 : Int32) &&& 31).toUInt32).toInt32) &&& (3 : Int32)) (0 : Int32) (psh (0 : Int32) (p3 &&& (3 : Int32)) p4 p1) (psh (1 : Int32) (p3 &&& (3 : Int32)) p4 (0 : Int32)) (psh (2 : Int32) (p3 &&& (3 : Int32)) p4 (0 : Int32)) (psh (3 : Int32) (p3 &&& (3 : Int32)) p4 p2))), .val (.int (f4 p1 p2 (p3 &&& (3 : Int32)) p4 (((p3.toUInt32 >>> ((2 : Int32) &&& 31).toUInt32).toInt32) &&& (3 : Int32)) p5 (psh (0 : Int32) (((p3.toUInt32 >>> ((2 : Int32) &&& 31).toUInt32).toInt32) &&& (3 : Int32)) p5 (psh (0 : Int32) (p3 &&& (3 : Int32)) p4 p1)) (psh (1 : Int32) (((p3.toUInt32 >>> ((2 : Int32) &&& 31).toUInt32).toInt32) &&& (3 : Int32)) p5 (psh (1 : Int32) (p3 &&& (3 : Int32)) p4 (0 : Int32))) (psh (2 : Int32) (((p3.toUInt32 >>> ((2 : Int32) &&& 31).toUInt32).toInt32) &&& (3 : Int32)) p5 (psh (2 : Int32) (p3 &&& (3 : Int32)) p4 (0 : Int32))) (psh (3 : Int32) (((p3.toUInt32 >>> ((2 : Int32) &&& 31).toUInt32).toInt32) &&& (3 : Int32)) p5 (psh (3 : Int32) (p3 &&& (3 : Int32)) p4 p2))))] [(.int (1 : Int32))])) _
        refine XS.goto X59.here hx rfl (pc0 := 146) (pc' := 150) rfl (hb hby at_146) (by decide) (by decide) ?_
        show Steps p.tables e below (T59.setTop (mkF m 150 #[.val (.int p1), .val (.int p2), .val (.int p3), .val (.int p4), .val (.int p5), .val (.ref b1), .val (.ref b4), .val (.ref b8), .val (.ref b14), .val (.ref b22), .val (.int (p3 &&& (3 : Int32))), .val (.int (((p3.toUInt32 >>> ((2 : Int32) &&& 31).toUInt32).toInt32) &&& (3 : Int32))), .val (.int (f4 p1 p2 (p3 &&& (3 : Int32)) p4 (((p3.toUInt32 >>> ((2 : Int32) &&& 31).toUInt32).toInt32) &&& (3 : Int32)) (0 : Int32) (psh (0 : Int32) (p3 &&& (3 : Int32)) p4 p1) (psh (1 : Int32) (p3 &&& (3 : Int32)) p4 (0 : Int32)) (psh (2 : Int32) (p3 &&& (3 : Int32)) p4 (0 : Int32)) (psh (3 : Int32) (p3 &&& (3 : Int32)) p4 p2))), .val (.int (f4 p1 p2 (p3 &&& (3 : Int32)) p4 (((p3.toUInt32 >>> ((2 : Int32) &&& 31).toUInt32).toInt32) &&& (3 : Int32)) p5 (psh (0 : Int32) (((p3.toUInt32 >>> ((2 : Int32) &&& 31).toUInt32).toInt32) &&& (3 : Int32)) p5 (psh (0 : Int32) (p3 &&& (3 : Int32)) p4 p1)) (psh (1 : Int32) (((p3.toUInt32 >>> ((2 : Int32) &&& 31).toUInt32).toInt32) &&& (3 : Int32)) p5 (psh (1 : Int32) (p3 &&& (3 : Int32)) p4 (0 : Int32))) (psh (2 : Int32) (((p3.toUInt32 >>> ((2 : Int32) &&& 31).toUInt32).toInt32) &&& (3 : Int32)) p5 (psh (2 : Int32) (p3 &&& (3 : Int32)) p4 (0 : Int32))) (psh (3 : Int32) (((p3.toUInt32 >>> ((2 : Int32) &&& 31).toUInt32).toInt32) &&& (3 : Int32)) p5 (psh (3 : Int32) (p3 &&& (3 : Int32)) p4 p2))))] [(.int (1 : Int32))])) _
        exact retN X59 hx (t := .boolean) Bd.returns (by simp) (hb hby at_150) hr
      · show Q0 Z p1 p2 p3 p4 p5 h0 n0 _ T59.heap _
        rw [e59]
        exact ⟨by rw [show (f0 p1 p2 p3 p4 p5) = (1 : Int32) from by first | (rw [f0, if_neg hc61, if_neg hc64]; done) | (simp only [f0, if_neg hc61, if_neg hc64]; done) | rfl], N59⟩

theorem own_psh (i a d x : Int32) (hi : i = 0 ∨ i = 1 ∨ i = 2 ∨ i = 3) (ha : a = 0 ∨ a = 1 ∨ a = 2 ∨ a = 3) : psh i a d x = x + f6 i a d := by
  have e1 : x - d = x + (0 - d) := by rw [Int32.zero_sub, Int32.sub_eq_add_neg]
  rw [psh, f6, m6_6_0, m6_2_0, f7, psm, e1]
  rcases hi with rfl | rfl | rfl | rfl <;> rcases ha with rfl | rfl | rfl | rfl <;> simp +decide
theorem own_z (i a : Int32) : f6 i a 0 = 0 := by
  rw [f6, m6_6_0, m6_2_0]
  by_cases h1 : i = a <;> by_cases h2 : i = f7 a <;> simp [h1, h2]
theorem own_f4 (c0 c1 a d b e x0 x1 x2 x3 : Int32) (h0 : x0 = (f5 0 c0 c1 + f6 0 a d) + f6 0 b e) (h1 : x1 = (f5 1 c0 c1 + f6 1 a d) + f6 1 b e) (h2 : x2 = (f5 2 c0 c1 + f6 2 a d) + f6 2 b e) (h3 : x3 = (f5 3 c0 c1 + f6 3 a d) + f6 3 b e) : f4 c0 c1 a d b e x0 x1 x2 x3 = 1 := by
  have a0 : m4_9_0 c0 c1 a d b e x0 = 1 := by rw [m4_9_0, if_pos h0]
  have a1 : m4_12_0 c0 c1 a d b e x0 x1 = 1 := by rw [m4_12_0, a0, if_neg (by decide), if_pos h1]
  have a2 : m4_22_0 c0 c1 a d b e x0 x1 x2 = 1 := by rw [m4_22_0, a1, if_neg (by decide), if_pos h2]
  have a3 : m4_32_0 c0 c1 a d b e x0 x1 x2 x3 = 1 := by rw [m4_32_0, a2, if_neg (by decide), if_pos h3]
  rw [f4, a3]; rfl
theorem own_main (p1 p2 p3 p4 p5 : Int32) : f0 p1 p2 p3 p4 p5 = 1 := by
  have ha := own_and3 p3
  have hb := own_and3 ((p3.toUInt32 >>> ((2 : Int32) &&& 31).toUInt32).toInt32)
  rw [f0]
  generalize (p3 &&& 3) = a at *
  generalize (((p3.toUInt32 >>> ((2 : Int32) &&& 31).toUInt32).toInt32) &&& 3) = b at *
  have g0 : f5 0 p1 p2 = p1 := rfl
  have g1 : f5 1 p1 p2 = 0 := rfl
  have g2 : f5 2 p1 p2 = 0 := rfl
  have g3 : f5 3 p1 p2 = p2 := rfl
  rw [own_f4, own_f4]
  · decide
  all_goals (first | rw [own_psh _ b _ _ (by decide) hb, own_psh _ a _ _ (by decide) ha] | rw [own_psh _ a _ _ (by decide) ha, own_z, Int32.add_zero])
  all_goals (first | rw [g0] | rw [g1] | rw [g2] | rw [g3])

set_option maxRecDepth 65536 in
set_option maxHeartbeats 40000000 in
theorem comes_1 {Post : Tables → Env → Array Value → State → Outcome → State → Prop} (hpost : ∀ tb e args s v u, (limb_1_1.after args s (.returned v) u = true ∧ limb_1_2.after args s (.returned v) u = true ∧ True) → FrameEnd s (.returned v) u (Jvm.fieldLocs frame_1_writes args s ++ Jvm.arrayLocs frame_1_arrays args s ++ Jvm.staticLocs frame_1_statics s) 32 192 → Post tb e args s (.returned v) u) :
    ArmFor flags0 classFile x code maxLocals ret World_1 tables_1 room_1 Calls_1 rest_1 Pre_1 Post := by
  intro l hfl _ _ p e ha hc hk s m args below hf hA hF happ hP
  obtain ⟨hcalls, hrest, hpre⟩ := hP
  obtain ⟨-, -, -, hnamed, -, -, -, hat⟩ := (Spec.applies_iff hf).mp happ
  obtain ⟨hg, hn⟩ := and_e (Cond.before_iff.mp (show (Jvm.Cond.and given_1 narrow_1).before args s = true from hpre))
  obtain ⟨g1, g2⟩ := and_e hg
  obtain ⟨g3, g4⟩ := and_e g2
  obtain ⟨g5, g6⟩ := and_e g4
  obtain ⟨g7, g8⟩ := and_e g6
  obtain ⟨g9, g10⟩ := and_e g8
  obtain ⟨w0, w1, w2, w3, w4, rfl⟩ : ∃ w0 w1 w2 w3 w4 : Value, args = #[w0, w1, w2, w3, w4] := by
    have hs : args.size = 5 := by simpa [Cond.value, given_1] using g1
    obtain ⟨L⟩ := args
    match L, hs with
    | [w0, w1, w2, w3, w4], _ => exact ⟨w0, w1, w2, w3, w4, rfl⟩
  have hw := fun d (hd : d ∈ tables_1) => atoms_spec (ws := Jvm.Cond.code x code maxLocals ret :: tables_1) hat d (List.mem_cons_of_mem _ hd)
  have hfit : Fit s := fun {y c} hc i hi => by
    obtain ⟨ha, rfl⟩ := Array.getElem?_eq_some_iff.mp hc
    have q := List.all_eq_true.mp ((Array.all_eq_true_iff_forall_mem.mp hF) _ (Array.getElem_mem ha)) i (List.mem_range.mpr hi)
    simpa [Array.getElem?_eq_getElem hi] using q
  obtain ⟨i0, ei0⟩ := is_v g3
  obtain rfl : w0 = (.int i0) := Option.some.inj ei0
  obtain ⟨i1, ei1⟩ := is_v g5
  obtain rfl : w1 = (.int i1) := Option.some.inj ei1
  obtain ⟨i2, ei2⟩ := is_v g7
  obtain rfl : w2 = (.int i2) := Option.some.inj ei2
  obtain ⟨i3, ei3⟩ := is_v g9
  obtain rfl : w3 = (.int i3) := Option.some.inj ei3
  obtain ⟨i4, ei4⟩ := is_v g10
  obtain rfl : w4 = (.int i4) := Option.some.inj ei4
  obtain ⟨n, o, h1, h2, h3, _, L, rfl, ⟨rfl, N⟩, hq⟩ := rm0 l s _ hw tables_1 i0 i1 i2 i3 i4 s.heap s.heap.size (Nat.le_refl _) p e ha hc hk s m _ below hf ((Spec.applies_iff_loose hf).mp happ).1 ⟨rfl, State.Warmed39.refl s, rfl⟩ trivial
  refine ⟨n, _, h1, h2, h3, hpost _ _ _ _ _ _ ⟨Cond.after_iff.mpr rfl, Cond.after_iff.mpr (eq_i res_at (Term.int_eval (1)) (congrArg Value.int (own_main i0 i1 i2 i3 i4))), trivial⟩ ⟨hq.1, hq.2.1, (hq.2.2.sift fun y hy => Or.inr (N y hy)).mono (by decide) (by decide)⟩⟩
theorem main_1_1 : Claimed_1_1 := comes_1 fun _ _ _ _ _ _ h hF => ⟨h.1, hF⟩
theorem main_1_2 : Claimed_1_2 := comes_1 fun _ _ _ _ _ _ h hF => ⟨h.2.1, hF⟩
end Jvm.Pilot.@@N@@
namespace Jvm.Pilot.@@N@@
open Jvm Jvm.ClassFile Sem Op Lib Jvm.Free Jvm.Stand Jvm.Pilot.@@N@@.Jvm.D
/-! MADE BY PROGRAM (witnessworld.py) out of the Statement's table words and the real class files: 12 classes; the members and pool entries that the words name. The judged class is class 1, her method 5. -/
namespace start1
open Jvm.ClassFile
def u (s : String) : CpInfo := .utf8 (stringToUtf16 s)
/-- a pool by its gaps: so many unusable entries, then the entry; so many at the end -/
def gap : Nat → List CpInfo → List CpInfo
  | 0, r => r
  | n + 1, r => .unusable :: gap n r
def poolList (es : List (Nat × CpInfo)) (last : Nat) : List CpInfo := es.foldr (fun e r => gap e.1 (e.2 :: r)) (gap last [])
def pool (es : List (Nat × CpInfo)) (last : Nat) : Array CpInfo := ⟨poolList es last⟩
def fileOf (pool : Array CpInfo) (this : Nat) (attrs : Array Attribute := #[]) (ms : Array MethodInfo := #[]) (fl : Nat := 33) (sup : Nat := 0) (ifs : Array Nat := #[]) (fds : Array FieldInfo := #[]) : ClassFile where
  minorVersion := 0
  majorVersion := 65
  constantPool := pool
  accessFlags := fl
  thisClass := this
  superClass := sup
  interfaces := ifs
  fields := fds
  methods := ms
  attributes := attrs
def plain (name : String) (sup : Option ClassId) : Class where
  name := name
  kind := .ordinary
  loader := none
  accessFlags := 33
  super := sup
  interfaces := #[]
  cf := none
  fields := #[]
  methods := #[]
  instanceTypes := #[]
  staticTypes := #[]
  resolved := #[]
  callSites := []
  init := .initialized
  statics := none
  mirror := none

def pool0 : Array CpInfo := pool [(5, u "<init>"), (0, u "()V"), (1, .class_ 10), (1, u "java/lang/Object")] 113

def k0c0 : Code := { maxStack := 0, maxLocals := 1, code := object_method_1_code, exceptionTable := #[], attributes := #[] }
def k0m0 : Method := { name := "<init>", desc := "()V", sig := { parameters := [], returnType := none }, accessFlags := 1, code := some k0c0 }
/-- java/lang/Object -/
def k0 : Class := { plain "java/lang/Object" none with
  accessFlags := 33
  interfaces := #[]
  cf := some (fileOf pool0 8 #[] #[{ accessFlags := 1, nameIndex := 5, descriptorIndex := 6, attributes := #[] }] 33 0 #[] #[])
  fields := #[]
  methods := #[k0m0]
  instanceTypes := #[]
  staticTypes := #[]
  resolved := Array.replicate 124 none
  statics := none }

def pool1 : Array CpInfo := pool [(2, .class_ 4), (1, u "java/lang/Object"), (0, u "<init>"), (0, u "()V"), (0, .methodref 8 9), (0, .class_ 10), (0, .nameAndType 11 12), (0, u "com/example/hindsight/hindsight/solvers/ResidualNetworkPushPinLaw"), (0, u "mateOf"), (0, u "(I)I"), (0, .fieldref 14 15), (0, .class_ 16), (0, .nameAndType 17 18), (0, u "com/example/hindsight/hindsight/solvers/ResidualNetwork"), (0, u "residual"), (0, u "[I"), (0, .methodref 8 20), (0, .nameAndType 21 22), (0, u "initial"), (0, u "(III)I"), (0, .methodref 8 24), (0, .nameAndType 25 22), (0, u "delta"), (0, .long 5), (1, .long 18446744073709551609), (1, .methodref 14 31), (0, .nameAndType 5 32), (0, u "(I[I[I[I[JI)V"), (0, .methodref 14 34), (0, .nameAndType 35 36), (0, u "push"), (0, u "(II)V"), (0, .methodref 8 38), (0, .nameAndType 39 40), (0, u "matches"), (0, u "(Lcom/example/hindsight/hindsight/solvers/ResidualNetwork;IIIIII)Z"), (3, u "law"), (0, u "(IIIII)Z")] 5

def k1m0 : Method := { name := "<init>", desc := "()V", sig := { parameters := [], returnType := none }, accessFlags := 1, code := none }
def k1c1 : Code := { maxStack := 2, maxLocals := 3, code := method_2_code, exceptionTable := #[], attributes := #[] }
def k1m1 : Method := { name := "initial", desc := "(III)I", sig := { parameters := [.int, .int, .int], returnType := some .int }, accessFlags := 10, code := some k1c1 }
def k1c2 : Code := { maxStack := 2, maxLocals := 1, code := method_3_code, exceptionTable := #[], attributes := #[] }
def k1m2 : Method := { name := "mateOf", desc := "(I)I", sig := { parameters := [.int], returnType := some .int }, accessFlags := 10, code := some k1c2 }
def k1c3 : Code := { maxStack := 2, maxLocals := 4, code := method_4_code, exceptionTable := #[], attributes := #[] }
def k1m3 : Method := { name := "delta", desc := "(III)I", sig := { parameters := [.int, .int, .int], returnType := some .int }, accessFlags := 10, code := some k1c3 }
def k1c4 : Code := { maxStack := 5, maxLocals := 8, code := method_5_code, exceptionTable := #[], attributes := #[] }
def k1m4 : Method := { name := "matches", desc := "(Lcom/example/hindsight/hindsight/solvers/ResidualNetwork;IIIIII)Z", sig := { parameters := [(.object "com/example/hindsight/hindsight/solvers/ResidualNetwork"), .int, .int, .int, .int, .int, .int], returnType := some .boolean }, accessFlags := 10, code := some k1c4 }
def k1c5 : Code := { maxStack := 8, maxLocals := 14, code := code, exceptionTable := #[], attributes := #[] }
def k1m5 : Method := { name := "law", desc := "(IIIII)Z", sig := { parameters := [.int, .int, .int, .int, .int], returnType := some .boolean }, accessFlags := 9, code := some k1c5 }
/-- com/example/hindsight/hindsight/solvers/ResidualNetworkPushPinLaw -/
def k1 : Class := { plain "com/example/hindsight/hindsight/solvers/ResidualNetworkPushPinLaw" (some 0) with
  accessFlags := 49
  interfaces := #[]
  cf := some (fileOf pool1 8 #[] #[{ accessFlags := 1, nameIndex := 5, descriptorIndex := 6, attributes := #[] }, { accessFlags := 10, nameIndex := 21, descriptorIndex := 22, attributes := #[] }, { accessFlags := 10, nameIndex := 11, descriptorIndex := 12, attributes := #[] }, { accessFlags := 10, nameIndex := 25, descriptorIndex := 22, attributes := #[] }, { accessFlags := 10, nameIndex := 39, descriptorIndex := 40, attributes := #[] }, { accessFlags := 9, nameIndex := 44, descriptorIndex := 45, attributes := #[] }] 49 2 #[] #[])
  fields := #[]
  methods := #[k1m0, k1m1, k1m2, k1m3, k1m4, k1m5]
  instanceTypes := #[]
  staticTypes := #[]
  resolved := Array.replicate 51 none
  statics := none }

def pool2 : Array CpInfo := pool [(1, .methodref 2 3), (0, .class_ 4), (0, .nameAndType 5 6), (0, u "java/lang/Object"), (0, u "<init>"), (0, u "()V"), (0, .fieldref 8 9), (0, .class_ 10), (0, .nameAndType 11 12), (0, u "com/example/hindsight/hindsight/solvers/ResidualNetwork"), (0, u "nodes"), (0, u "I"), (0, .fieldref 8 14), (0, .nameAndType 15 16), (0, u "firstArc"), (0, u "[I"), (0, .fieldref 8 18), (0, .nameAndType 19 16), (0, u "head"), (0, .fieldref 8 21), (0, .nameAndType 22 16), (0, u "mate"), (0, .fieldref 8 24), (0, .nameAndType 25 16), (0, u "residual"), (0, .fieldref 8 27), (0, .nameAndType 28 29), (0, u "cost"), (0, u "[J"), (0, .fieldref 8 31), (0, .nameAndType 32 16), (0, u "edgeArc"), (0, .methodref 34 35), (0, .class_ 36), (0, .nameAndType 37 38), (0, u "java/lang/System"), (0, u "arraycopy"), (0, u "(Ljava/lang/Object;ILjava/lang/Object;II)V"), (9, u "(I[I[I[I[JI)V"), (7, u "push"), (0, u "(II)V")] 4

def k2c0 : Code := { maxStack := 5, maxLocals := 11, code := prog_63_method_1_code, exceptionTable := #[], attributes := #[] }
def k2m0 : Method := { name := "<init>", desc := "(I[I[I[I[JI)V", sig := { parameters := [.int, (.array .int), (.array .int), (.array .int), (.array .long), .int], returnType := none }, accessFlags := 0, code := some k2c0 }
def k2c1 : Code := { maxStack := 4, maxLocals := 3, code := prog_63_method_3_code, exceptionTable := #[], attributes := #[] }
def k2m1 : Method := { name := "push", desc := "(II)V", sig := { parameters := [.int, .int], returnType := none }, accessFlags := 0, code := some k2c1 }
/-- com/example/hindsight/hindsight/solvers/ResidualNetwork -/
def k2 : Class := { plain "com/example/hindsight/hindsight/solvers/ResidualNetwork" (some 0) with
  accessFlags := 48
  interfaces := #[]
  cf := some (fileOf pool2 8 #[] #[{ accessFlags := 0, nameIndex := 5, descriptorIndex := 48, attributes := #[] }, { accessFlags := 0, nameIndex := 56, descriptorIndex := 57, attributes := #[] }] 48 2 #[] #[{ accessFlags := 16, nameIndex := 11, descriptorIndex := 12, attributes := #[] }, { accessFlags := 16, nameIndex := 15, descriptorIndex := 16, attributes := #[] }, { accessFlags := 16, nameIndex := 19, descriptorIndex := 16, attributes := #[] }, { accessFlags := 16, nameIndex := 22, descriptorIndex := 16, attributes := #[] }, { accessFlags := 16, nameIndex := 25, descriptorIndex := 16, attributes := #[] }, { accessFlags := 16, nameIndex := 28, descriptorIndex := 29, attributes := #[] }, { accessFlags := 18, nameIndex := 32, descriptorIndex := 16, attributes := #[] }])
  fields := #[{ name := "nodes", type := .int, accessFlags := 16, slot := 0, constantValue := 0 }, { name := "firstArc", type := (.array .int), accessFlags := 16, slot := 1, constantValue := 0 }, { name := "head", type := (.array .int), accessFlags := 16, slot := 2, constantValue := 0 }, { name := "mate", type := (.array .int), accessFlags := 16, slot := 3, constantValue := 0 }, { name := "residual", type := (.array .int), accessFlags := 16, slot := 4, constantValue := 0 }, { name := "cost", type := (.array .long), accessFlags := 16, slot := 5, constantValue := 0 }, { name := "edgeArc", type := (.array .int), accessFlags := 18, slot := 6, constantValue := 0 }]
  methods := #[k2m0, k2m1]
  instanceTypes := #[.int, (.array .int), (.array .int), (.array .int), (.array .int), (.array .long), (.array .int)]
  staticTypes := #[]
  resolved := Array.replicate 62 none
  statics := none }

def pool3 : Array CpInfo := pool [(2, .class_ 4), (1, u "java/lang/Object"), (0, u "<init>"), (0, u "()V"), (1, .class_ 10), (1, u "java/lang/System"), (0, u "allowSecurityManager"), (0, u "I"), (16, u "cons"), (0, u "Ljava/io/Console;"), (77, .class_ 110), (1, u "java/lang/System$CallersHolder"), (43, u "initialErrStream"), (0, u "Ljava/io/PrintStream;"), (19, u "security"), (0, u "Ljava/lang/SecurityManager;"), (31, .class_ 209), (0, u "java/lang/System$1"), (7, u "props"), (0, u "Ljava/util/Properties;"), (2, u "lineSeparator"), (0, u "Ljava/lang/String;"), (96, .class_ 321), (1, u "java/lang/System$LoggerFinder"), (5, .class_ 328), (0, u "java/lang/System$Logger"), (67, u "err"), (2, u "out"), (91, u "notSupportedJnuEncoding"), (15, u "in"), (17, u "initialIn"), (0, u "Ljava/io/InputStream;"), (35, u "bootLayer"), (0, u "Ljava/lang/ModuleLayer;"), (99, .class_ 664), (0, u "java/lang/System$2"), (9, u "NEVER"), (2, u "MAYBE"), (49, u "arraycopy"), (0, u "(Ljava/lang/Object;ILjava/lang/Object;II)V"), (72, .class_ 802), (0, u "java/lang/System$Logger$Level")] 31

def k3m0 : Method := { name := "<init>", desc := "()V", sig := { parameters := [], returnType := none }, accessFlags := 2, code := none }
def k3m1 : Method := { name := "arraycopy", desc := "(Ljava/lang/Object;ILjava/lang/Object;II)V", sig := { parameters := [(.object "java/lang/Object"), .int, (.object "java/lang/Object"), .int, .int], returnType := none }, accessFlags := 265, code := none }
/-- java/lang/System -/
def k3 : Class := { plain "java/lang/System" (some 0) with
  accessFlags := 49
  interfaces := #[]
  cf := some (fileOf pool3 8 #[.nestMembers #[319, 327, 801, 108, 663, 208]] #[{ accessFlags := 2, nameIndex := 5, descriptorIndex := 6, attributes := #[] }, { accessFlags := 265, nameIndex := 727, descriptorIndex := 728, attributes := #[] }] 49 2 #[] #[{ accessFlags := 25, nameIndex := 507, descriptorIndex := 526, attributes := #[] }, { accessFlags := 25, nameIndex := 399, descriptorIndex := 155, attributes := #[] }, { accessFlags := 25, nameIndex := 396, descriptorIndex := 155, attributes := #[] }, { accessFlags := 10, nameIndex := 525, descriptorIndex := 526, attributes := #[] }, { accessFlags := 26, nameIndex := 674, descriptorIndex := 12, attributes := #[] }, { accessFlags := 26, nameIndex := 677, descriptorIndex := 12, attributes := #[] }, { accessFlags := 10, nameIndex := 11, descriptorIndex := 12, attributes := #[] }, { accessFlags := 74, nameIndex := 175, descriptorIndex := 176, attributes := #[] }, { accessFlags := 10, nameIndex := 491, descriptorIndex := 222, attributes := #[] }, { accessFlags := 74, nameIndex := 29, descriptorIndex := 30, attributes := #[] }, { accessFlags := 74, nameIndex := 154, descriptorIndex := 155, attributes := #[] }, { accessFlags := 10, nameIndex := 217, descriptorIndex := 218, attributes := #[] }, { accessFlags := 10, nameIndex := 221, descriptorIndex := 222, attributes := #[] }, { accessFlags := 8, nameIndex := 562, descriptorIndex := 563, attributes := #[] }])
  fields := #[{ name := "in", type := (.object "java/io/InputStream"), accessFlags := 25, slot := 0, constantValue := 0 }, { name := "out", type := (.object "java/io/PrintStream"), accessFlags := 25, slot := 1, constantValue := 0 }, { name := "err", type := (.object "java/io/PrintStream"), accessFlags := 25, slot := 2, constantValue := 0 }, { name := "initialIn", type := (.object "java/io/InputStream"), accessFlags := 10, slot := 3, constantValue := 0 }, { name := "NEVER", type := .int, accessFlags := 26, slot := 4, constantValue := 0 }, { name := "MAYBE", type := .int, accessFlags := 26, slot := 5, constantValue := 0 }, { name := "allowSecurityManager", type := .int, accessFlags := 10, slot := 6, constantValue := 0 }, { name := "security", type := (.object "java/lang/SecurityManager"), accessFlags := 74, slot := 7, constantValue := 0 }, { name := "notSupportedJnuEncoding", type := (.object "java/lang/String"), accessFlags := 10, slot := 8, constantValue := 0 }, { name := "cons", type := (.object "java/io/Console"), accessFlags := 74, slot := 9, constantValue := 0 }, { name := "initialErrStream", type := (.object "java/io/PrintStream"), accessFlags := 74, slot := 10, constantValue := 0 }, { name := "props", type := (.object "java/util/Properties"), accessFlags := 10, slot := 11, constantValue := 0 }, { name := "lineSeparator", type := (.object "java/lang/String"), accessFlags := 10, slot := 12, constantValue := 0 }, { name := "bootLayer", type := (.object "java/lang/ModuleLayer"), accessFlags := 8, slot := 13, constantValue := 0 }]
  methods := #[k3m0, k3m1]
  instanceTypes := #[]
  staticTypes := #[(.object "java/io/InputStream"), (.object "java/io/PrintStream"), (.object "java/io/PrintStream"), (.object "java/io/InputStream"), .int, .int, .int, (.object "java/lang/SecurityManager"), (.object "java/lang/String"), (.object "java/io/Console"), (.object "java/io/PrintStream"), (.object "java/util/Properties"), (.object "java/lang/String"), (.object "java/lang/ModuleLayer")]
  resolved := Array.replicate 834 none
  statics := none }

def pool4 : Array CpInfo := pool [(1, u "java/lang/Cloneable"), (0, .class_ 1), (0, u "java/lang/Object"), (0, .class_ 3)] 3

/-- java/lang/Cloneable -/
def k4 : Class := { plain "java/lang/Cloneable" (some 0) with
  accessFlags := 1537
  interfaces := #[]
  cf := some (fileOf pool4 2 #[] #[] 1537 4 #[] #[])
  fields := #[]
  methods := #[]
  instanceTypes := #[]
  staticTypes := #[]
  resolved := Array.replicate 8 none
  statics := none }

def pool5 : Array CpInfo := pool [(1, u "java/io/Serializable"), (0, .class_ 1), (0, u "java/lang/Object"), (0, .class_ 3)] 3

/-- java/io/Serializable -/
def k5 : Class := { plain "java/io/Serializable" (some 0) with
  accessFlags := 1537
  interfaces := #[]
  cf := some (fileOf pool5 2 #[] #[] 1537 4 #[] #[])
  fields := #[]
  methods := #[]
  instanceTypes := #[]
  staticTypes := #[]
  resolved := Array.replicate 8 none
  statics := none }

/-- the primitive byte -/
def k6 : Class := { plain "byte" none with kind := .primitive 'B', accessFlags := 0x411 }
/-- [B -/
def k7 : Class := { plain "[B" (some 0) with kind := .array 6 .byte, interfaces := #[4, 5], accessFlags := 1041 }

/-- the primitive int -/
def k8 : Class := { plain "int" none with kind := .primitive 'I', accessFlags := 0x411 }
/-- [I -/
def k9 : Class := { plain "[I" (some 0) with kind := .array 8 .int, interfaces := #[4, 5], accessFlags := 1041 }

/-- the primitive long -/
def k10 : Class := { plain "long" none with kind := .primitive 'J', accessFlags := 0x411 }
/-- [J -/
def k11 : Class := { plain "[J" (some 0) with kind := .array 10 .long, interfaces := #[4, 5], accessFlags := 1041 }

def heap : Heap := #[]
def classes : Array Class := #[k0, k1, k2, k3, k4, k5, k6, k7, k8, k9, k10, k11]
def interned : List (Array UInt16 × Addr) := []
def slotsUsed : Nat := 0
def theMethod : MethodId := ⟨1, 5⟩
def args0 : Array Value := #[.int 5, .int 6, .int 7, .int 8, .int 9]
def aboutOver (below : List Frame) : State where
  vm := { classes := classes, interned := interned.toArray }
  heap := heap
  slotsUsed := slotsUsed
  threads := #[{ frames := .invoking theMethod args0 :: below }]
def below0 : List Frame := [.native { method := ⟨0, 0⟩, args := #[] }]
def about1 : State := aboutOver below0
def p0 : Program := .bare "" "" ""
def e0 : Env := launch0.env 0 0 0
theorem w_frames : about1.frames = Frame.invoking theMethod args0 :: below0 := rfl
set_option maxRecDepth 65536 in
theorem w_args : argsFit about1.vm theMethod args0 = true := by decide +kernel
set_option maxRecDepth 65536 in
theorem w_heap : heapFits about1 = true := by decide +kernel
set_option maxRecDepth 65536 in
theorem w_runnable : about1.curStatus? = some .runnable := by decide +kernel
set_option maxRecDepth 65536 in
theorem w_alone : about1.alone = true := by decide +kernel
set_option maxRecDepth 65536 in
theorem w_named : about1.methodNamed? x = some theMethod := by decide +kernel
set_option maxRecDepth 65536 in
theorem w_hears : about1.hears theMethod below0 = true := by decide +kernel
set_option maxRecDepth 65536 in
theorem w_ripe : about1.ripe theMethod args0 below0 = true := by decide +kernel
theorem w_running : about1.status = .running := rfl
set_option maxRecDepth 65536 in
theorem w_room : about1.hasRoom e0.platform room_1 = true :=
  launch0.hasRoom_least _ room_1 (by decide +kernel) (by decide +kernel) (by decide +kernel) (by decide +kernel) (by decide +kernel) (by decide +kernel)
theorem allAtoms_all (ts : List Jvm.Cond) (a : Array Jvm.Value) (st : Jvm.State) : (allAtoms ts).before a st = ts.all (fun c => c.before a st) := by
  induction ts with
  | nil => rfl
  | cons c t ih =>
    show (Jvm.Cond.and c (allAtoms t)).before a st = _
    rw [Jvm.Cond.before_and, ih, List.all_cons]
def words1 : List Jvm.Cond := Jvm.Cond.code x code maxLocals ret :: tables_1
/-- a 'code' word, met by the world's own term for the bytes: nothing is compared byte by byte -/
theorem code_word {y : MethodName} {bytes : ByteArray} {mx : Nat} {rt : Option FieldType} {a : Array Value} {s : State} {m : MethodId} {meth : Method} {c : Code} (h1 : s.methodNamed? y = some m) (h2 : s.vm.method? m = some meth) (h3 : meth.code = some c) (h4 : c.code = bytes)
    (h5 : (c.maxLocals == mx && c.exceptionTable.isEmpty && decide (c.maxStack ≤ mostOperands) && decide (meth.sig.returnType = rt) && !meth.locks && decide (parseMethodDescriptor y.desc = some meth.sig)) = true) : (Jvm.Cond.code y bytes mx rt).before a s = true := by
  simp only [Bool.and_eq_true, beq_iff_eq, Bool.not_eq_true', decide_eq_true_eq] at h5
  obtain ⟨⟨⟨⟨⟨g1, g2⟩, g3⟩, g4⟩, g5⟩, g6⟩ := h5
  simp [Cond.before, Cond.holds, Cond.value, h1, h2, h3, h4, g1, g2, g3, g4, g5, g6]
def isCode : Jvm.Cond → Bool
  | .code _ _ _ _ => true
  | _ => false
theorem all_split {L : List Jvm.Cond} {P : Jvm.Cond → Bool} (h1 : L.all (fun c => isCode c || P c) = true) (h2 : ∀ c ∈ L.filter isCode, P c = true) : L.all P = true := by
  refine List.all_eq_true.mpr fun c hc => ?_
  have h := List.all_eq_true.mp h1 c hc
  rcases Bool.eq_false_or_eq_true (isCode c) with hi | hi
  · exact h2 c (List.mem_filter.mpr ⟨hc, hi⟩)
  · simpa [hi] using h
set_option maxRecDepth 65536 in
theorem w_c0 : (Jvm.Cond.code x code maxLocals ret).before args0 about1 = true := code_word (m := ⟨1, 5⟩) (meth := k1m5) (c := k1c5) (by decide +kernel) rfl rfl rfl (by decide +kernel)
set_option maxRecDepth 65536 in
theorem w_c1 : (Jvm.Cond.code ({ cls := "com/example/hindsight/hindsight/solvers/ResidualNetwork", name := "<init>", desc := "(I[I[I[I[JI)V" } : Jvm.MethodName) prog_63_method_1_code (11 : Nat) (Option.none : Option Jvm.ClassFile.FieldType)).before args0 about1 = true := code_word (m := ⟨2, 0⟩) (meth := k2m0) (c := k2c0) (by decide +kernel) rfl rfl rfl (by decide +kernel)
set_option maxRecDepth 65536 in
theorem w_c2 : (Jvm.Cond.code ({ cls := "java/lang/Object", name := "<init>", desc := "()V" } : Jvm.MethodName) object_method_1_code (1 : Nat) (Option.none : Option Jvm.ClassFile.FieldType)).before args0 about1 = true := code_word (m := ⟨0, 0⟩) (meth := k0m0) (c := k0c0) (by decide +kernel) rfl rfl rfl (by decide +kernel)
set_option maxRecDepth 65536 in
theorem w_c3 : (Jvm.Cond.code ({ cls := "com/example/hindsight/hindsight/solvers/ResidualNetwork", name := "push", desc := "(II)V" } : Jvm.MethodName) prog_63_method_3_code (3 : Nat) (Option.none : Option Jvm.ClassFile.FieldType)).before args0 about1 = true := code_word (m := ⟨2, 1⟩) (meth := k2m1) (c := k2c1) (by decide +kernel) rfl rfl rfl (by decide +kernel)
set_option maxRecDepth 65536 in
theorem w_c4 : (Jvm.Cond.code ({ cls := "com/example/hindsight/hindsight/solvers/ResidualNetworkPushPinLaw", name := "matches", desc := "(Lcom/example/hindsight/hindsight/solvers/ResidualNetwork;IIIIII)Z" } : Jvm.MethodName) method_5_code (8 : Nat) (Option.some Jvm.ClassFile.FieldType.boolean)).before args0 about1 = true := code_word (m := ⟨1, 4⟩) (meth := k1m4) (c := k1c4) (by decide +kernel) rfl rfl rfl (by decide +kernel)
set_option maxRecDepth 65536 in
theorem w_c5 : (Jvm.Cond.code ({ cls := "com/example/hindsight/hindsight/solvers/ResidualNetworkPushPinLaw", name := "initial", desc := "(III)I" } : Jvm.MethodName) method_2_code (3 : Nat) (Option.some Jvm.ClassFile.FieldType.int)).before args0 about1 = true := code_word (m := ⟨1, 1⟩) (meth := k1m1) (c := k1c1) (by decide +kernel) rfl rfl rfl (by decide +kernel)
set_option maxRecDepth 65536 in
theorem w_c6 : (Jvm.Cond.code ({ cls := "com/example/hindsight/hindsight/solvers/ResidualNetworkPushPinLaw", name := "delta", desc := "(III)I" } : Jvm.MethodName) method_4_code (4 : Nat) (Option.some Jvm.ClassFile.FieldType.int)).before args0 about1 = true := code_word (m := ⟨1, 3⟩) (meth := k1m3) (c := k1c3) (by decide +kernel) rfl rfl rfl (by decide +kernel)
set_option maxRecDepth 65536 in
theorem w_c7 : (Jvm.Cond.code ({ cls := "com/example/hindsight/hindsight/solvers/ResidualNetworkPushPinLaw", name := "mateOf", desc := "(I)I" } : Jvm.MethodName) method_3_code (1 : Nat) (Option.some Jvm.ClassFile.FieldType.int)).before args0 about1 = true := code_word (m := ⟨1, 2⟩) (meth := k1m2) (c := k1c2) (by decide +kernel) rfl rfl rfl (by decide +kernel)
def codes1 : List Jvm.Cond := [Jvm.Cond.code x code maxLocals ret, Jvm.Cond.code ({ cls := "com/example/hindsight/hindsight/solvers/ResidualNetwork", name := "<init>", desc := "(I[I[I[I[JI)V" } : Jvm.MethodName) prog_63_method_1_code (11 : Nat) (Option.none : Option Jvm.ClassFile.FieldType), Jvm.Cond.code ({ cls := "java/lang/Object", name := "<init>", desc := "()V" } : Jvm.MethodName) object_method_1_code (1 : Nat) (Option.none : Option Jvm.ClassFile.FieldType), Jvm.Cond.code ({ cls := "com/example/hindsight/hindsight/solvers/ResidualNetwork", name := "push", desc := "(II)V" } : Jvm.MethodName) prog_63_method_3_code (3 : Nat) (Option.none : Option Jvm.ClassFile.FieldType), Jvm.Cond.code ({ cls := "com/example/hindsight/hindsight/solvers/ResidualNetworkPushPinLaw", name := "matches", desc := "(Lcom/example/hindsight/hindsight/solvers/ResidualNetwork;IIIIII)Z" } : Jvm.MethodName) method_5_code (8 : Nat) (Option.some Jvm.ClassFile.FieldType.boolean), Jvm.Cond.code ({ cls := "com/example/hindsight/hindsight/solvers/ResidualNetworkPushPinLaw", name := "initial", desc := "(III)I" } : Jvm.MethodName) method_2_code (3 : Nat) (Option.some Jvm.ClassFile.FieldType.int), Jvm.Cond.code ({ cls := "com/example/hindsight/hindsight/solvers/ResidualNetworkPushPinLaw", name := "delta", desc := "(III)I" } : Jvm.MethodName) method_4_code (4 : Nat) (Option.some Jvm.ClassFile.FieldType.int), Jvm.Cond.code ({ cls := "com/example/hindsight/hindsight/solvers/ResidualNetworkPushPinLaw", name := "mateOf", desc := "(I)I" } : Jvm.MethodName) method_3_code (1 : Nat) (Option.some Jvm.ClassFile.FieldType.int)]
set_option maxRecDepth 65536 in
theorem codes_eq : words1.filter isCode = codes1 := rfl
theorem w_codes : ∀ c ∈ words1.filter isCode, c.before args0 about1 = true := by
  rw [codes_eq]
  intro c hc
  simp only [codes1, List.mem_cons, List.not_mem_nil, or_false] at hc
  rcases hc with rfl | rfl | rfl | rfl | rfl | rfl | rfl | rfl
  · exact w_c0
  · exact w_c1
  · exact w_c2
  · exact w_c3
  · exact w_c4
  · exact w_c5
  · exact w_c6
  · exact w_c7
set_option maxRecDepth 65536 in
theorem w_t1 : (words1.take 24).all (fun c => isCode c || c.before args0 about1) = true := by decide +kernel
set_option maxRecDepth 65536 in
theorem w_t2 : ((words1.drop 24).take 24).all (fun c => isCode c || c.before args0 about1) = true := by decide +kernel
set_option maxRecDepth 65536 in
theorem w_t3 : ((words1.drop 24).drop 24).all (fun c => isCode c || c.before args0 about1) = true := by decide +kernel
theorem w_tables : (allAtoms (Jvm.Cond.code x code maxLocals ret :: tables_1)).before args0 about1 = true := by
  rw [allAtoms_all]
  show words1.all (fun c => c.before args0 about1) = true
  refine all_split ?_ w_codes
  rw [← List.take_append_drop 24 words1, List.all_append, w_t1, ← List.take_append_drop 24 (words1.drop 24), List.all_append, w_t2, w_t3]
  rfl
set_option maxRecDepth 65536 in
theorem w_case : (Jvm.Cond.and given_1 narrow_1).before args0 about1 = true := by decide +kernel
theorem w_applies : (headSpec (Jvm.Cond.code x code maxLocals ret :: tables_1) room_1).applies x e0.platform about1 = true :=
  (Spec.applies_iff w_frames).mpr ⟨w_running, w_runnable, w_alone, w_named, w_hears, w_ripe, w_room, w_tables⟩
theorem atStart : AtStart classFile x code maxLocals ret World_1 tables_1 room_1 Calls_1 rest_1 Pre_1 launch0 p0 e0 about1 theMethod args0 below0 :=
  ⟨lists_1, trivial, launch0.admits_env _ _ _, launch0.least_env, fairChoices_fair.cas, fairChoices_fair.clock, w_frames, w_args, w_heap, w_applies, trivial, trivial, w_case⟩
end start1
theorem witness_1 : WitnessClaimed_1 := ⟨start1.p0, start1.e0, start1.about1, start1.theMethod, start1.args0, start1.below0, start1.atStart⟩
end Jvm.Pilot.@@N@@

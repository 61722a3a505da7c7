import JvmDerived
import JvmDerived.Pilot.@@N@@Statement
import JvmDerived.Pilot.@@N@@Code
set_option linter.unusedVariables false
set_option linter.unusedSimpArgs false
@@BLOCK:NumsL.lean.txt@@
namespace Jvm.RoadKit
open Sem ClassFile Op Lib Jvm.Stand Jvm.Free Jvm.LawKit
section New
variable {p : Program} {l : Launch} {e : Env} {R : Room} {s : State} {m : MethodId} {args : Array Value} {below : List Frame} {meth : Method} {c : Code} {T : State} {locs : List Loc} {cells slots : Nat}
theorem retI (X : Stand p l e R s m args below meth c T locs cells slots) (hx : p.tables.exec = Jvm.exec) {pc : Nat} {Ls : Array Slot} {z : Int32} {rest : List Value} (hret : meth.sig.returnType = some .int) (hd : decode c.code pc = .ok (.ireturn, 1)) {fs : List Frame}
    (hl : ∀ (f : JFrame) (acts : List Action), f.method = m → f.locked = none → f.entered = [] → (doReturn e (T.setTop f) acts (some (.int z))).1 = T.setFrames fs) : Steps p.tables e below (T.setTop (mkF m pc Ls (.int z :: rest))) (T.setFrames fs) := by
  have hm' : T.vm.method? m = some meth := X.method'
  have hn : narrow .int (.int z) = .int z := rfl
  show Steps p.tables e below (T.setTop { method := m, pc := pc, locals := Ls, stack := _ :: rest, locked := none }) _
  jvm_step X.here [X.here.top, hx, hd, hm', hret, hn]
  first | (intro acts; rw [hl _ acts rfl rfl rfl]) | rw [hl _ _ rfl rfl rfl]
  exact Steps.refl _
end New
end Jvm.RoadKit
namespace Jvm.Pilot.@@N@@
open Jvm Jvm.ClassFile Sem Op Lib Jvm.Free Jvm.Stand Jvm.LawKit Jvm.RoadKit Bundle Jvm.Pilot.@@N@@.Jvm.D


/-! arrays: what an array holds, as a list of values (AV) or as a function of the place (AI) -/
def AV (Z : State) (h : Heap) (a : Addr) (ty : FieldType) (z : Int32) (vs : List Value) : Prop := ∃ c : Cell, Arr Z h a c ty ∧ c.slots = vs.toArray ∧ vs.length = z.toNatClampNeg ∧ ¬ z < 0
def AI (Z : State) (h : Heap) (a : Addr) (ty : FieldType) (z : Int32) (f : Nat → Int32) : Prop := ∃ c : Cell, Arr Z h a c ty ∧ c.slots.size = z.toNatClampNeg ∧ ¬ z < 0 ∧ ∀ i, i < z.toNatClampNeg → c.slots[i]? = some (.int (f i))
section Arrays
variable {Z : State} {h h' : Heap} {a b : Addr} {ty : FieldType} {z j : Int32} {vs : List Value} {f : Nat → Int32} {sl : Nat} {v : Value} {ws : List Addr} {k : ClassId}
theorem AV.lt (F : AV Z h a ty z vs) : a < h.size := by obtain ⟨c, A, -⟩ := F; exact A.lt
theorem AI.lt (F : AI Z h a ty z f) : a < h.size := by obtain ⟨c, A, -⟩ := F; exact A.lt
theorem AV.ext (F : AV Z h a ty z vs) (E : Ext h h') : AV Z h' a ty z vs := by obtain ⟨c, A, r⟩ := F; exact ⟨c, Arr.ext E A, r⟩
theorem AI.ext (F : AI Z h a ty z f) (E : Ext h h') : AI Z h' a ty z f := by obtain ⟨c, A, r⟩ := F; exact ⟨c, Arr.ext E A, r⟩
theorem AV.other (F : AV Z h b ty z vs) (W : Wr h h' a sl v) (q : b ≠ a) : AV Z h' b ty z vs := by obtain ⟨c, A, r⟩ := F; exact ⟨c, Arr.other W A q, r⟩
theorem AI.other (F : AI Z h b ty z f) (W : Wr h h' a sl v) (q : b ≠ a) : AI Z h' b ty z f := by obtain ⟨c, A, r⟩ := F; exact ⟨c, Arr.other W A q, r⟩
theorem AV.keep (F : AV Z h a ty z vs) (K : Keep h h' ws) (q : a ∉ ws) : AV Z h' a ty z vs := by obtain ⟨c, A, r⟩ := F; exact ⟨c, ⟨K.2.1 _ _ A.1 q, A.2⟩, r⟩
theorem AI.keep (F : AI Z h a ty z f) (K : Keep h h' ws) (q : a ∉ ws) : AI Z h' a ty z f := by obtain ⟨c, A, r⟩ := F; exact ⟨c, ⟨K.2.1 _ _ A.1 q, A.2⟩, r⟩
theorem AV.new (A : Arr Z h a (newA k ty z) ty) (q : ¬ z < 0) : AV Z h a ty z (List.replicate z.toNatClampNeg (defaultValue ty)) := ⟨_, A, by simp [newA], by simp, q⟩
theorem AI.new {d : Int32} (A : Arr Z h a (newA k ty z) ty) (q : ¬ z < 0) (hd : defaultValue ty = .int d) : AI Z h a ty z (fun _ => d) := ⟨_, A, sz_new k ty z, q, fun i hi => by simp [newA, hi, hd]⟩
theorem AV.set {c : Cell} (A : Arr Z h a c ty) (S : c.slots = vs.toArray) (N : vs.length = z.toNatClampNeg) (q : ¬ z < 0) (W : Wr h h' a sl v) : AV Z h' a ty z (vs.set sl v) := by
  refine ⟨_, Arr.same W A, ?_, by simpa using N, q⟩
  simp [Cell.setSlot, S]
theorem AI.set {c : Cell} {x : Int32} (A : Arr Z h a c ty) (S : c.slots.size = z.toNatClampNeg) (q : ¬ z < 0) (G : ∀ i, i < z.toNatClampNeg → c.slots[i]? = some (.int (f i))) (W : Wr h h' a sl (.int x)) : AI Z h' a ty z (fun i => if i = sl then x else f i) := by
  obtain ⟨c', e1, -, -, e4, -, e6, e7⟩ := wr_at W A.1
  have A' := Arr.same W A
  obtain rfl : c' = c.setSlot sl (.int x) := (e7 rfl).1
  refine ⟨_, A', by rw [e4]; exact S, q, fun i hi => ?_⟩
  by_cases hc : i = sl
  · subst hc; simp only [if_pos]; exact (e7 rfl).2.1
  · simp only [if_neg hc]; rw [e6 i hc]; exact G i hi
theorem AI.congr {g : Nat → Int32} (F : AI Z h a ty z f) (q : ∀ i, i < z.toNatClampNeg → f i = g i) : AI Z h a ty z g := by
  obtain ⟨c, A, S, N, G⟩ := F
  exact ⟨c, A, S, N, fun i hi => by rw [← q i hi]; exact G i hi⟩
theorem AV.inb {c : Cell} (S : c.slots = vs.toArray) (N : vs.length = z.toNatClampNeg) (q : ¬ j < 0 ∧ j < z) : ¬ (j < 0 ∨ c.slots.size ≤ j.toNatClampNeg) := inb_of (by rw [S]; simpa using N) q
theorem AV.len {c : Cell} (S : c.slots = vs.toArray) (N : vs.length = z.toNatClampNeg) (q : ¬ z < 0) : c.slots.size.toInt32 = z := len_of (by rw [S]; simpa using N) q
theorem AV.at {c : Cell} (S : c.slots = vs.toArray) (hj : vs[j.toNatClampNeg]? = some v) : c.slots[j.toNatClampNeg]? = some v := by rw [S]; simpa using hj
theorem AI.at {c : Cell} (S : c.slots.size = z.toNatClampNeg) (G : ∀ i, i < z.toNatClampNeg → c.slots[i]? = some (.int (f i))) (q : ¬ (j < 0 ∨ c.slots.size ≤ j.toNatClampNeg)) : c.slots[j.toNatClampNeg]? = some (.int (f j.toNatClampNeg)) := G _ (by rw [← S]; exact Nat.lt_of_not_le fun x => q (Or.inr x))
theorem own_loop {G : Prop} {α : Type} (P : α → Prop) (m : α → Nat) (hs : ∀ a, P a → (∀ b, P b → m b < m a → G) → G) (a : α) (ha : P a) : G := by
  suffices h : ∀ n a, m a = n → P a → G from h _ a rfl ha
  intro n
  induction n using Nat.strongRecOn with
  | ind n ih => intro a hn hp; exact hs a hp fun b hb hlt => ih (m b) (by rw [← hn]; exact hlt) b rfl hb
def AK (h : Heap) (a : Addr) (k : ClassId) : Prop := ∃ c : Cell, h[a]? = some c ∧ c.cls = k
theorem AK.ext (F : AK h a k) (E : Ext h h') : AK h' a k := by obtain ⟨c, h1, h2⟩ := F; exact ⟨c, E.2 _ _ h1, h2⟩
theorem AK.wr (F : AK h b k) (W : Wr h h' a sl v) : AK h' b k := by obtain ⟨c, h1, h2⟩ := F; obtain ⟨c', e1, e2, -⟩ := wr_at W h1; exact ⟨c', e1, e2.trans h2⟩
theorem AK.keep (F : AK h a k) (K : Keep h h' ws) : AK h' a k := by obtain ⟨c, h1, h2⟩ := F; obtain ⟨c', e1, e2, -⟩ := K.2.2 _ _ h1; exact ⟨c', e1, e2.trans h2⟩
theorem AK.cls {c : Cell} (F : AK h a k) (A : Arr Z h a c ty) : c.cls = k := by obtain ⟨c', h1, h2⟩ := F; cases h1.symm.trans A.1; exact h2
theorem AV.arv (F : AV Z h a ty z vs) (d : Value) (hf : ∀ v ∈ vs, fits ty v = true) : ∃ k, Arv Z h a k ty z vs d := by
  obtain ⟨c, A, S, N, q⟩ := F
  refine ⟨_, c, A, rfl, by rw [S]; simpa using N, q, fun i hi => ?_, fun i hi => ?_⟩
  · rw [S] at hi ⊢
    have hi' : i < vs.length := by simpa using hi
    simp [hi']
  · rw [S] at hi
    have hi' : i < vs.length := by simpa using hi
    have e : vs.getD i d = vs[i] := by simp [hi']
    rw [e]; exact hf _ (List.getElem_mem hi')
theorem AV.of_arv {d : Value} (F : Arv Z h a k ty z vs d) (N : vs.length = z.toNatClampNeg) : AV Z h a ty z vs := by
  obtain ⟨c, A, -, S, q, H, -⟩ := F
  refine ⟨c, A, ?_, N, q⟩
  apply Array.ext_getElem?
  intro i
  by_cases hi : i < c.slots.size
  · have hi' : i < vs.length := by rw [N, ← S]; exact hi
    rw [H i hi]; simp [hi']
  · have hi' : ¬ i < vs.length := by rw [N, ← S]; exact hi
    simp [Array.getElem?_eq_none (Nat.le_of_not_lt hi), List.getElem?_eq_none (Nat.le_of_not_lt hi')]
end Arrays


theorem own_i15 {k z : Int32} (hk : ¬ k < 0 ∧ ¬ (15 : Int32) < k) (hz : (15 : Int32) < z) : ¬ k < 0 ∧ k < z := ⟨hk.1, by
  have h := hk.2
  rw [Int32.lt_iff_toInt_lt] at *
  omega⟩

theorem d1_0 : decode method_2_code 0 = .ok (.aload_n 0, 1) := by decide +kernel
theorem d1_1 : decode method_2_code 1 = .ok (.iconst 0, 1) := by decide +kernel
theorem d1_2 : decode method_2_code 2 = .ok (.bipush 72, 2) := by decide +kernel
theorem d1_4 : decode method_2_code 4 = .ok (.bastore, 1) := by decide +kernel
theorem d1_5 : decode method_2_code 5 = .ok (.aload_n 0, 1) := by decide +kernel
theorem d1_6 : decode method_2_code 6 = .ok (.iconst 1, 1) := by decide +kernel
theorem d1_7 : decode method_2_code 7 = .ok (.bipush 89, 2) := by decide +kernel
theorem d1_9 : decode method_2_code 9 = .ok (.bastore, 1) := by decide +kernel
theorem d1_10 : decode method_2_code 10 = .ok (.aload_n 0, 1) := by decide +kernel
theorem d1_11 : decode method_2_code 11 = .ok (.iconst 2, 1) := by decide +kernel
theorem d1_12 : decode method_2_code 12 = .ok (.bipush 76, 2) := by decide +kernel
theorem d1_14 : decode method_2_code 14 = .ok (.bastore, 1) := by decide +kernel
theorem d1_15 : decode method_2_code 15 = .ok (.aload_n 0, 1) := by decide +kernel
theorem d1_16 : decode method_2_code 16 = .ok (.iconst 3, 1) := by decide +kernel
theorem d1_17 : decode method_2_code 17 = .ok (.bipush 76, 2) := by decide +kernel
theorem d1_19 : decode method_2_code 19 = .ok (.bastore, 1) := by decide +kernel
theorem d1_20 : decode method_2_code 20 = .ok (.aload_n 0, 1) := by decide +kernel
theorem d1_21 : decode method_2_code 21 = .ok (.iconst 4, 1) := by decide +kernel
theorem d1_22 : decode method_2_code 22 = .ok (.iload_n 1, 1) := by decide +kernel
theorem d1_23 : decode method_2_code 23 = .ok (.i2b, 1) := by decide +kernel
theorem d1_24 : decode method_2_code 24 = .ok (.bastore, 1) := by decide +kernel
theorem d1_25 : decode method_2_code 25 = .ok (.aload_n 0, 1) := by decide +kernel
theorem d1_26 : decode method_2_code 26 = .ok (.iconst 5, 1) := by decide +kernel
theorem d1_27 : decode method_2_code 27 = .ok (.iload_n 2, 1) := by decide +kernel
theorem d1_28 : decode method_2_code 28 = .ok (.i2b, 1) := by decide +kernel
theorem d1_29 : decode method_2_code 29 = .ok (.bastore, 1) := by decide +kernel
theorem d1_30 : decode method_2_code 30 = .ok (.aload_n 0, 1) := by decide +kernel
theorem d1_31 : decode method_2_code 31 = .ok (.bipush 6, 2) := by decide +kernel
theorem d1_33 : decode method_2_code 33 = .ok (.iload_n 2, 1) := by decide +kernel
theorem d1_34 : decode method_2_code 34 = .ok (.bipush 8, 2) := by decide +kernel
theorem d1_36 : decode method_2_code 36 = .ok (.iushr, 1) := by decide +kernel
theorem d1_37 : decode method_2_code 37 = .ok (.i2b, 1) := by decide +kernel
theorem d1_38 : decode method_2_code 38 = .ok (.bastore, 1) := by decide +kernel
theorem d1_39 : decode method_2_code 39 = .ok (.aload_n 0, 1) := by decide +kernel
theorem d1_40 : decode method_2_code 40 = .ok (.bipush 7, 2) := by decide +kernel
theorem d1_42 : decode method_2_code 42 = .ok (.iload_n 2, 1) := by decide +kernel
theorem d1_43 : decode method_2_code 43 = .ok (.bipush 16, 2) := by decide +kernel
theorem d1_45 : decode method_2_code 45 = .ok (.iushr, 1) := by decide +kernel
theorem d1_46 : decode method_2_code 46 = .ok (.i2b, 1) := by decide +kernel
theorem d1_47 : decode method_2_code 47 = .ok (.bastore, 1) := by decide +kernel
theorem d1_48 : decode method_2_code 48 = .ok (.aload_n 0, 1) := by decide +kernel
theorem d1_49 : decode method_2_code 49 = .ok (.bipush 8, 2) := by decide +kernel
theorem d1_51 : decode method_2_code 51 = .ok (.lload_n 3, 1) := by decide +kernel
theorem d1_52 : decode method_2_code 52 = .ok (.l2i, 1) := by decide +kernel
theorem d1_53 : decode method_2_code 53 = .ok (.i2b, 1) := by decide +kernel
theorem d1_54 : decode method_2_code 54 = .ok (.bastore, 1) := by decide +kernel
theorem d1_55 : decode method_2_code 55 = .ok (.aload_n 0, 1) := by decide +kernel
theorem d1_56 : decode method_2_code 56 = .ok (.bipush 9, 2) := by decide +kernel
theorem d1_58 : decode method_2_code 58 = .ok (.lload_n 3, 1) := by decide +kernel
theorem d1_59 : decode method_2_code 59 = .ok (.bipush 8, 2) := by decide +kernel
theorem d1_61 : decode method_2_code 61 = .ok (.lushr, 1) := by decide +kernel
theorem d1_62 : decode method_2_code 62 = .ok (.l2i, 1) := by decide +kernel
theorem d1_63 : decode method_2_code 63 = .ok (.i2b, 1) := by decide +kernel
theorem d1_64 : decode method_2_code 64 = .ok (.bastore, 1) := by decide +kernel
theorem d1_65 : decode method_2_code 65 = .ok (.aload_n 0, 1) := by decide +kernel
theorem d1_66 : decode method_2_code 66 = .ok (.bipush 10, 2) := by decide +kernel
theorem d1_68 : decode method_2_code 68 = .ok (.lload_n 3, 1) := by decide +kernel
theorem d1_69 : decode method_2_code 69 = .ok (.bipush 16, 2) := by decide +kernel
theorem d1_71 : decode method_2_code 71 = .ok (.lushr, 1) := by decide +kernel
theorem d1_72 : decode method_2_code 72 = .ok (.l2i, 1) := by decide +kernel
theorem d1_73 : decode method_2_code 73 = .ok (.i2b, 1) := by decide +kernel
theorem d1_74 : decode method_2_code 74 = .ok (.bastore, 1) := by decide +kernel
theorem d1_75 : decode method_2_code 75 = .ok (.aload_n 0, 1) := by decide +kernel
theorem d1_76 : decode method_2_code 76 = .ok (.bipush 11, 2) := by decide +kernel
theorem d1_78 : decode method_2_code 78 = .ok (.lload_n 3, 1) := by decide +kernel
theorem d1_79 : decode method_2_code 79 = .ok (.bipush 24, 2) := by decide +kernel
theorem d1_81 : decode method_2_code 81 = .ok (.lushr, 1) := by decide +kernel
theorem d1_82 : decode method_2_code 82 = .ok (.l2i, 1) := by decide +kernel
theorem d1_83 : decode method_2_code 83 = .ok (.i2b, 1) := by decide +kernel
theorem d1_84 : decode method_2_code 84 = .ok (.bastore, 1) := by decide +kernel
theorem d1_85 : decode method_2_code 85 = .ok (.aload_n 0, 1) := by decide +kernel
theorem d1_86 : decode method_2_code 86 = .ok (.bipush 12, 2) := by decide +kernel
theorem d1_88 : decode method_2_code 88 = .ok (.lload_n 3, 1) := by decide +kernel
theorem d1_89 : decode method_2_code 89 = .ok (.bipush 32, 2) := by decide +kernel
theorem d1_91 : decode method_2_code 91 = .ok (.lushr, 1) := by decide +kernel
theorem d1_92 : decode method_2_code 92 = .ok (.l2i, 1) := by decide +kernel
theorem d1_93 : decode method_2_code 93 = .ok (.i2b, 1) := by decide +kernel
theorem d1_94 : decode method_2_code 94 = .ok (.bastore, 1) := by decide +kernel
theorem d1_95 : decode method_2_code 95 = .ok (.aload_n 0, 1) := by decide +kernel
theorem d1_96 : decode method_2_code 96 = .ok (.bipush 13, 2) := by decide +kernel
theorem d1_98 : decode method_2_code 98 = .ok (.lload_n 3, 1) := by decide +kernel
theorem d1_99 : decode method_2_code 99 = .ok (.bipush 40, 2) := by decide +kernel
theorem d1_101 : decode method_2_code 101 = .ok (.lushr, 1) := by decide +kernel
theorem d1_102 : decode method_2_code 102 = .ok (.l2i, 1) := by decide +kernel
theorem d1_103 : decode method_2_code 103 = .ok (.i2b, 1) := by decide +kernel
theorem d1_104 : decode method_2_code 104 = .ok (.bastore, 1) := by decide +kernel
theorem d1_105 : decode method_2_code 105 = .ok (.aload_n 0, 1) := by decide +kernel
theorem d1_106 : decode method_2_code 106 = .ok (.bipush 14, 2) := by decide +kernel
theorem d1_108 : decode method_2_code 108 = .ok (.lload_n 3, 1) := by decide +kernel
theorem d1_109 : decode method_2_code 109 = .ok (.bipush 48, 2) := by decide +kernel
theorem d1_111 : decode method_2_code 111 = .ok (.lushr, 1) := by decide +kernel
theorem d1_112 : decode method_2_code 112 = .ok (.l2i, 1) := by decide +kernel
theorem d1_113 : decode method_2_code 113 = .ok (.i2b, 1) := by decide +kernel
theorem d1_114 : decode method_2_code 114 = .ok (.bastore, 1) := by decide +kernel
theorem d1_115 : decode method_2_code 115 = .ok (.aload_n 0, 1) := by decide +kernel
theorem d1_116 : decode method_2_code 116 = .ok (.bipush 15, 2) := by decide +kernel
theorem d1_118 : decode method_2_code 118 = .ok (.lload_n 3, 1) := by decide +kernel
theorem d1_119 : decode method_2_code 119 = .ok (.bipush 56, 2) := by decide +kernel
theorem d1_121 : decode method_2_code 121 = .ok (.lushr, 1) := by decide +kernel
theorem d1_122 : decode method_2_code 122 = .ok (.l2i, 1) := by decide +kernel
theorem d1_123 : decode method_2_code 123 = .ok (.i2b, 1) := by decide +kernel
theorem d1_124 : decode method_2_code 124 = .ok (.bastore, 1) := by decide +kernel
theorem d1_125 : decode method_2_code 125 = .ok (.return_, 1) := by decide +kernel
theorem pn_0 : plainName "com/example/cardinality/cardinality/format/HyllValueIsDensePinLaw" = true := by first | (simp [plainName, overriddenIn]; done) | decide +kernel
def hdr (f : Nat → Int32) (p2 p3 : Int32) (q4 : Int64) : Nat → Int32 := (fun i => if i = 15 then (((((q4.toUInt64 >>> ((56 : Int32) &&& 0x3f).toInt64.toUInt64).toInt64).toInt32).toInt8.toInt32).toInt8.toInt32) else (fun i => if i = 14 then (((((q4.toUInt64 >>> ((48 : Int32) &&& 0x3f).toInt64.toUInt64).toInt64).toInt32).toInt8.toInt32).toInt8.toInt32) else (fun i => if i = 13 then (((((q4.toUInt64 >>> ((40 : Int32) &&& 0x3f).toInt64.toUInt64).toInt64).toInt32).toInt8.toInt32).toInt8.toInt32) else (fun i => if i = 12 then (((((q4.toUInt64 >>> ((32 : Int32) &&& 0x3f).toInt64.toUInt64).toInt64).toInt32).toInt8.toInt32).toInt8.toInt32) else (fun i => if i = 11 then (((((q4.toUInt64 >>> ((24 : Int32) &&& 0x3f).toInt64.toUInt64).toInt64).toInt32).toInt8.toInt32).toInt8.toInt32) else (fun i => if i = 10 then (((((q4.toUInt64 >>> ((16 : Int32) &&& 0x3f).toInt64.toUInt64).toInt64).toInt32).toInt8.toInt32).toInt8.toInt32) else (fun i => if i = 9 then (((((q4.toUInt64 >>> ((8 : Int32) &&& 0x3f).toInt64.toUInt64).toInt64).toInt32).toInt8.toInt32).toInt8.toInt32) else (fun i => if i = 8 then (((q4.toInt32).toInt8.toInt32).toInt8.toInt32) else (fun i => if i = 7 then ((((p3.toUInt32 >>> ((16 : Int32) &&& 31).toUInt32).toInt32).toInt8.toInt32).toInt8.toInt32) else (fun i => if i = 6 then ((((p3.toUInt32 >>> ((8 : Int32) &&& 31).toUInt32).toInt32).toInt8.toInt32).toInt8.toInt32) else (fun i => if i = 5 then ((p3.toInt8.toInt32).toInt8.toInt32) else (fun i => if i = 4 then ((p2.toInt8.toInt32).toInt8.toInt32) else (fun i => if i = 3 then (76 : Int32) else (fun i => if i = 2 then (76 : Int32) else (fun i => if i = 1 then (89 : Int32) else (fun i => if i = 0 then (72 : Int32) else f i) i) i) i) i) i) i) i) i) i) i) i) i) i) i) i)
theorem ef_1 (m : MethodId) (x0 : Addr) (x1 : Int32) (x2 : Int32) (x3 : Int64) : entryFrame m #[(.ref x0), (.int x1), (.int x2), (.long x3)] 5 = mkF m 0 #[.val (.ref x0), .val (.int x1), .val (.int x2), .val (.long x3), .second] [] := by first | (simp [entryFrame, mkF, argsToLocals, Value.category]; done) | rfl
def Q1 (Z : State) (a1 : Addr) (p2 : Int32) (p3 : Int32) (q4 : Int64) (z : Int32) (f : Nat → Int32) (h0 : Heap) (n0 : Nat) (v : Option Value) (h : Heap) (L : List Loc) : Prop := v = none ∧ Fr n0 L ∧ Keep h0 h [a1] ∧ AI Z h a1 .byte z (hdr f p2 p3 q4)
set_option maxRecDepth 65536 in
set_option maxHeartbeats 40000000 in
theorem rm1 (l : Launch) (Z : State) (a0 : Array Value) (hw : ∀ d ∈ tables_1, d.before a0 Z = true) (ws : List Jvm.Cond) (a1 : Addr) (p2 : Int32) (p3 : Int32) (q4 : Int64) (z : Int32) (f : Nat → Int32) (h0 : Heap) (n0 : Nat) (Z0 : n0 ≤ h0.size) (V_a1 : AI Z h0 a1 .byte z f) (g_a1 : n0 ≤ a1) (hz : (15 : Int32) < z) :
    MetFree l (⟨"com/example/cardinality/cardinality/format/HyllValueIsDensePinLaw", "header", "([BIIJ)V"⟩ : MethodName) (head1 (Jvm.Cond.code (⟨"com/example/cardinality/cardinality/format/HyllValueIsDensePinLaw", "header", "([BIIJ)V"⟩ : MethodName) method_2_code 5 none :: ws) ({ frames := 0, cells := 0, slots := 0, locals := 0 } : Room)) (fun a U => a = #[(.ref a1), (.int p2), (.int p3), (.long q4)] ∧ Z.Warmed39 U.vm ∧ U.heap = h0) (fun _ _ _ _ _ => True) (fun _ U o U' => ∃ v L, o = .returned v ∧ Q1 Z a1 p2 p3 q4 z f h0 n0 v U'.heap L ∧ FrameEnd U o U' L ({ frames := 0, cells := 0, slots := 0, locals := 0 } : Room).cells ({ frames := 0, cells := 0, slots := 0, locals := 0 } : Room).slots) := by
  refine MetFree.of_bodySF (plainFor_of_name pn_0) hisR ?_
  intro p e s m args below meth c s₁ Bd hml0 hP hK
  obtain ⟨rfl, hZ, hh⟩ := hP
  have hx := Bd.exec
  have hby := Bd.bytes
  have hml : c.maxLocals = 5 := hml0
  have hown : s.vm.findClass "com/example/cardinality/cardinality/format/HyllValueIsDensePinLaw" = some m.cls := findClass_of_methodNamed Bd.named
  have hnm := (name_of_methodNamed Bd.named Bd.method).1
  have X0 : Stand p l e ({ frames := 0, cells := 0, slots := 0, locals := 0 } : Room) s m #[(.ref a1), (.int p2), (.int p3), (.long q4)] below meth c s₁ [] 0 0 := Stand.of_body Bd
  have e0 : s₁.heap = h0 := by rw [← hh, Bd.state]; rfl
  have N0 := Fr.nil n0
  have pre0 : ∀ t, Steps p.tables e below (s₁.setTop (mkF m 0 #[.val (.ref a1), .val (.int p2), .val (.int p3), .val (.long q4), .second] [])) t → Steps p.tables e below (s₁.setTop (entryFrame m #[(.ref a1), (.int p2), (.int p3), (.long q4)] 5)) t := fun t k => castTop (ef_1 m a1 p2 p3 q4) k
  obtain ⟨cl1, A1, S1, M1, G1⟩ := id V_a1
  have hin1 : ¬ ((0 : Int32) < 0 ∨ cl1.slots.size ≤ ((0 : Int32)).toNatClampNeg) := inb_of S1 (own_i15 (by decide) hz)
  obtain ⟨T1, h1, X1, e1, W1, st1⟩ := stB X0 hx hZ e0 A1 (j := (0 : Int32)) hin1 (g := (mkF m 4 #[.val (.ref a1), .val (.int p2), .val (.int p3), .val (.long q4), .second] [(.int (72 : Int32)), (.int (0 : Int32)), (.ref a1)])) rfl rfl (hb hby d1_4)
  have V1 : AI Z h1 a1 .byte z (fun i => if i = 0 then (72 : Int32) else f i) := AI.set A1 S1 M1 G1 W1
  have K1 : Keep h0 h1 [a1] := (Keep.refl h0 [a1]).wr W1 (Or.inl (List.mem_of_getElem? (i := 0) rfl))
  have N1 := Fr.snoc X1 N0 g_a1
  obtain ⟨cl2, A2, S2, M2, G2⟩ := id V1
  have hin2 : ¬ ((1 : Int32) < 0 ∨ cl2.slots.size ≤ ((1 : Int32)).toNatClampNeg) := inb_of S2 (own_i15 (by decide) hz)
  obtain ⟨T2, h2, X2, e2, W2, st2⟩ := stB X1 hx hZ e1 A2 (j := (1 : Int32)) hin2 (g := (mkF m 9 #[.val (.ref a1), .val (.int p2), .val (.int p3), .val (.long q4), .second] [(.int (89 : Int32)), (.int (1 : Int32)), (.ref a1)])) rfl rfl (hb hby d1_9)
  have V2 : AI Z h2 a1 .byte z (fun i => if i = 1 then (89 : Int32) else (fun i => if i = 0 then (72 : Int32) else f i) i) := AI.set A2 S2 M2 G2 W2
  have K2 : Keep h0 h2 [a1] := K1.wr W2 (Or.inl (List.mem_of_getElem? (i := 0) rfl))
  have N2 := Fr.snoc X2 N1 g_a1
  obtain ⟨cl3, A3, S3, M3, G3⟩ := id V2
  have hin3 : ¬ ((2 : Int32) < 0 ∨ cl3.slots.size ≤ ((2 : Int32)).toNatClampNeg) := inb_of S3 (own_i15 (by decide) hz)
  obtain ⟨T3, h3, X3, e3, W3, st3⟩ := stB X2 hx hZ e2 A3 (j := (2 : Int32)) hin3 (g := (mkF m 14 #[.val (.ref a1), .val (.int p2), .val (.int p3), .val (.long q4), .second] [(.int (76 : Int32)), (.int (2 : Int32)), (.ref a1)])) rfl rfl (hb hby d1_14)
  have V3 : AI Z h3 a1 .byte z (fun i => if i = 2 then (76 : Int32) else (fun i => if i = 1 then (89 : Int32) else (fun i => if i = 0 then (72 : Int32) else f i) i) i) := AI.set A3 S3 M3 G3 W3
  have K3 : Keep h0 h3 [a1] := K2.wr W3 (Or.inl (List.mem_of_getElem? (i := 0) rfl))
  have N3 := Fr.snoc X3 N2 g_a1
  obtain ⟨cl4, A4, S4, M4, G4⟩ := id V3
  have hin4 : ¬ ((3 : Int32) < 0 ∨ cl4.slots.size ≤ ((3 : Int32)).toNatClampNeg) := inb_of S4 (own_i15 (by decide) hz)
  obtain ⟨T4, h4, X4, e4, W4, st4⟩ := stB X3 hx hZ e3 A4 (j := (3 : Int32)) hin4 (g := (mkF m 19 #[.val (.ref a1), .val (.int p2), .val (.int p3), .val (.long q4), .second] [(.int (76 : Int32)), (.int (3 : Int32)), (.ref a1)])) rfl rfl (hb hby d1_19)
  have V4 : AI Z h4 a1 .byte z (fun i => if i = 3 then (76 : Int32) else (fun i => if i = 2 then (76 : Int32) else (fun i => if i = 1 then (89 : Int32) else (fun i => if i = 0 then (72 : Int32) else f i) i) i) i) := AI.set A4 S4 M4 G4 W4
  have K4 : Keep h0 h4 [a1] := K3.wr W4 (Or.inl (List.mem_of_getElem? (i := 0) rfl))
  have N4 := Fr.snoc X4 N3 g_a1
  obtain ⟨cl5, A5, S5, M5, G5⟩ := id V4
  have hin5 : ¬ ((4 : Int32) < 0 ∨ cl5.slots.size ≤ ((4 : Int32)).toNatClampNeg) := inb_of S5 (own_i15 (by decide) hz)
  obtain ⟨T5, h5, X5, e5, W5, st5⟩ := stB X4 hx hZ e4 A5 (j := (4 : Int32)) hin5 (g := (mkF m 24 #[.val (.ref a1), .val (.int p2), .val (.int p3), .val (.long q4), .second] [(.int (p2.toInt8.toInt32)), (.int (4 : Int32)), (.ref a1)])) rfl rfl (hb hby d1_24)
  have V5 : AI Z h5 a1 .byte z (fun i => if i = 4 then ((p2.toInt8.toInt32).toInt8.toInt32) else (fun i => if i = 3 then (76 : Int32) else (fun i => if i = 2 then (76 : Int32) else (fun i => if i = 1 then (89 : Int32) else (fun i => if i = 0 then (72 : Int32) else f i) i) i) i) i) := AI.set A5 S5 M5 G5 W5
  have K5 : Keep h0 h5 [a1] := K4.wr W5 (Or.inl (List.mem_of_getElem? (i := 0) rfl))
  have N5 := Fr.snoc X5 N4 g_a1
  obtain ⟨cl6, A6, S6, M6, G6⟩ := id V5
  have hin6 : ¬ ((5 : Int32) < 0 ∨ cl6.slots.size ≤ ((5 : Int32)).toNatClampNeg) := inb_of S6 (own_i15 (by decide) hz)
  obtain ⟨T6, h6, X6, e6, W6, st6⟩ := stB X5 hx hZ e5 A6 (j := (5 : Int32)) hin6 (g := (mkF m 29 #[.val (.ref a1), .val (.int p2), .val (.int p3), .val (.long q4), .second] [(.int (p3.toInt8.toInt32)), (.int (5 : Int32)), (.ref a1)])) rfl rfl (hb hby d1_29)
  have V6 : AI Z h6 a1 .byte z (fun i => if i = 5 then ((p3.toInt8.toInt32).toInt8.toInt32) else (fun i => if i = 4 then ((p2.toInt8.toInt32).toInt8.toInt32) else (fun i => if i = 3 then (76 : Int32) else (fun i => if i = 2 then (76 : Int32) else (fun i => if i = 1 then (89 : Int32) else (fun i => if i = 0 then (72 : Int32) else f i) i) i) i) i) i) := AI.set A6 S6 M6 G6 W6
  have K6 : Keep h0 h6 [a1] := K5.wr W6 (Or.inl (List.mem_of_getElem? (i := 0) rfl))
  have N6 := Fr.snoc X6 N5 g_a1
  obtain ⟨cl7, A7, S7, M7, G7⟩ := id V6
  have hin7 : ¬ ((6 : Int32) < 0 ∨ cl7.slots.size ≤ ((6 : Int32)).toNatClampNeg) := inb_of S7 (own_i15 (by decide) hz)
  obtain ⟨T7, h7, X7, e7, W7, st7⟩ := stB X6 hx hZ e6 A7 (j := (6 : Int32)) hin7 (g := (mkF m 38 #[.val (.ref a1), .val (.int p2), .val (.int p3), .val (.long q4), .second] [(.int (((p3.toUInt32 >>> ((8 : Int32) &&& 31).toUInt32).toInt32).toInt8.toInt32)), (.int (6 : Int32)), (.ref a1)])) rfl rfl (hb hby d1_38)
  have V7 : AI Z h7 a1 .byte z (fun i => if i = 6 then ((((p3.toUInt32 >>> ((8 : Int32) &&& 31).toUInt32).toInt32).toInt8.toInt32).toInt8.toInt32) else (fun i => if i = 5 then ((p3.toInt8.toInt32).toInt8.toInt32) else (fun i => if i = 4 then ((p2.toInt8.toInt32).toInt8.toInt32) else (fun i => if i = 3 then (76 : Int32) else (fun i => if i = 2 then (76 : Int32) else (fun i => if i = 1 then (89 : Int32) else (fun i => if i = 0 then (72 : Int32) else f i) i) i) i) i) i) i) := AI.set A7 S7 M7 G7 W7
  have K7 : Keep h0 h7 [a1] := K6.wr W7 (Or.inl (List.mem_of_getElem? (i := 0) rfl))
  have N7 := Fr.snoc X7 N6 g_a1
  obtain ⟨cl8, A8, S8, M8, G8⟩ := id V7
  have hin8 : ¬ ((7 : Int32) < 0 ∨ cl8.slots.size ≤ ((7 : Int32)).toNatClampNeg) := inb_of S8 (own_i15 (by decide) hz)
  obtain ⟨T8, h8, X8, e8, W8, st8⟩ := stB X7 hx hZ e7 A8 (j := (7 : Int32)) hin8 (g := (mkF m 47 #[.val (.ref a1), .val (.int p2), .val (.int p3), .val (.long q4), .second] [(.int (((p3.toUInt32 >>> ((16 : Int32) &&& 31).toUInt32).toInt32).toInt8.toInt32)), (.int (7 : Int32)), (.ref a1)])) rfl rfl (hb hby d1_47)
  have V8 : AI Z h8 a1 .byte z (fun i => if i = 7 then ((((p3.toUInt32 >>> ((16 : Int32) &&& 31).toUInt32).toInt32).toInt8.toInt32).toInt8.toInt32) else (fun i => if i = 6 then ((((p3.toUInt32 >>> ((8 : Int32) &&& 31).toUInt32).toInt32).toInt8.toInt32).toInt8.toInt32) else (fun i => if i = 5 then ((p3.toInt8.toInt32).toInt8.toInt32) else (fun i => if i = 4 then ((p2.toInt8.toInt32).toInt8.toInt32) else (fun i => if i = 3 then (76 : Int32) else (fun i => if i = 2 then (76 : Int32) else (fun i => if i = 1 then (89 : Int32) else (fun i => if i = 0 then (72 : Int32) else f i) i) i) i) i) i) i) i) := AI.set A8 S8 M8 G8 W8
  have K8 : Keep h0 h8 [a1] := K7.wr W8 (Or.inl (List.mem_of_getElem? (i := 0) rfl))
  have N8 := Fr.snoc X8 N7 g_a1
  obtain ⟨cl9, A9, S9, M9, G9⟩ := id V8
  have hin9 : ¬ ((8 : Int32) < 0 ∨ cl9.slots.size ≤ ((8 : Int32)).toNatClampNeg) := inb_of S9 (own_i15 (by decide) hz)
  obtain ⟨T9, h9, X9, e9, W9, st9⟩ := stB X8 hx hZ e8 A9 (j := (8 : Int32)) hin9 (g := (mkF m 54 #[.val (.ref a1), .val (.int p2), .val (.int p3), .val (.long q4), .second] [(.int ((q4.toInt32).toInt8.toInt32)), (.int (8 : Int32)), (.ref a1)])) rfl rfl (hb hby d1_54)
  have V9 : AI Z h9 a1 .byte z (fun i => if i = 8 then (((q4.toInt32).toInt8.toInt32).toInt8.toInt32) else (fun i => if i = 7 then ((((p3.toUInt32 >>> ((16 : Int32) &&& 31).toUInt32).toInt32).toInt8.toInt32).toInt8.toInt32) else (fun i => if i = 6 then ((((p3.toUInt32 >>> ((8 : Int32) &&& 31).toUInt32).toInt32).toInt8.toInt32).toInt8.toInt32) else (fun i => if i = 5 then ((p3.toInt8.toInt32).toInt8.toInt32) else (fun i => if i = 4 then ((p2.toInt8.toInt32).toInt8.toInt32) else (fun i => if i = 3 then (76 : Int32) else (fun i => if i = 2 then (76 : Int32) else (fun i => if i = 1 then (89 : Int32) else (fun i => if i = 0 then (72 : Int32) else f i) i) i) i) i) i) i) i) i) := AI.set A9 S9 M9 G9 W9
  have K9 : Keep h0 h9 [a1] := K8.wr W9 (Or.inl (List.mem_of_getElem? (i := 0) rfl))
  have N9 := Fr.snoc X9 N8 g_a1
  obtain ⟨cl10, A10, S10, M10, G10⟩ := id V9
  have hin10 : ¬ ((9 : Int32) < 0 ∨ cl10.slots.size ≤ ((9 : Int32)).toNatClampNeg) := inb_of S10 (own_i15 (by decide) hz)
  obtain ⟨T10, h10, X10, e10, W10, st10⟩ := stB X9 hx hZ e9 A10 (j := (9 : Int32)) hin10 (g := (mkF m 64 #[.val (.ref a1), .val (.int p2), .val (.int p3), .val (.long q4), .second] [(.int ((((q4.toUInt64 >>> ((8 : Int32) &&& 0x3f).toInt64.toUInt64).toInt64).toInt32).toInt8.toInt32)), (.int (9 : Int32)), (.ref a1)])) rfl rfl (hb hby d1_64)
  have V10 : AI Z h10 a1 .byte z (fun i => if i = 9 then (((((q4.toUInt64 >>> ((8 : Int32) &&& 0x3f).toInt64.toUInt64).toInt64).toInt32).toInt8.toInt32).toInt8.toInt32) else (fun i => if i = 8 then (((q4.toInt32).toInt8.toInt32).toInt8.toInt32) else (fun i => if i = 7 then ((((p3.toUInt32 >>> ((16 : Int32) &&& 31).toUInt32).toInt32).toInt8.toInt32).toInt8.toInt32) else (fun i => if i = 6 then ((((p3.toUInt32 >>> ((8 : Int32) &&& 31).toUInt32).toInt32).toInt8.toInt32).toInt8.toInt32) else (fun i => if i = 5 then ((p3.toInt8.toInt32).toInt8.toInt32) else (fun i => if i = 4 then ((p2.toInt8.toInt32).toInt8.toInt32) else (fun i => if i = 3 then (76 : Int32) else (fun i => if i = 2 then (76 : Int32) else (fun i => if i = 1 then (89 : Int32) else (fun i => if i = 0 then (72 : Int32) else f i) i) i) i) i) i) i) i) i) i) := AI.set A10 S10 M10 G10 W10
  have K10 : Keep h0 h10 [a1] := K9.wr W10 (Or.inl (List.mem_of_getElem? (i := 0) rfl))
  have N10 := Fr.snoc X10 N9 g_a1
  obtain ⟨cl11, A11, S11, M11, G11⟩ := id V10
  have hin11 : ¬ ((10 : Int32) < 0 ∨ cl11.slots.size ≤ ((10 : Int32)).toNatClampNeg) := inb_of S11 (own_i15 (by decide) hz)
  obtain ⟨T11, h11, X11, e11, W11, st11⟩ := stB X10 hx hZ e10 A11 (j := (10 : Int32)) hin11 (g := (mkF m 74 #[.val (.ref a1), .val (.int p2), .val (.int p3), .val (.long q4), .second] [(.int ((((q4.toUInt64 >>> ((16 : Int32) &&& 0x3f).toInt64.toUInt64).toInt64).toInt32).toInt8.toInt32)), (.int (10 : Int32)), (.ref a1)])) rfl rfl (hb hby d1_74)
  have V11 : AI Z h11 a1 .byte z (fun i => if i = 10 then (((((q4.toUInt64 >>> ((16 : Int32) &&& 0x3f).toInt64.toUInt64).toInt64).toInt32).toInt8.toInt32).toInt8.toInt32) else (fun i => if i = 9 then (((((q4.toUInt64 >>> ((8 : Int32) &&& 0x3f).toInt64.toUInt64).toInt64).toInt32).toInt8.toInt32).toInt8.toInt32) else (fun i => if i = 8 then (((q4.toInt32).toInt8.toInt32).toInt8.toInt32) else (fun i => if i = 7 then ((((p3.toUInt32 >>> ((16 : Int32) &&& 31).toUInt32).toInt32).toInt8.toInt32).toInt8.toInt32) else (fun i => if i = 6 then ((((p3.toUInt32 >>> ((8 : Int32) &&& 31).toUInt32).toInt32).toInt8.toInt32).toInt8.toInt32) else (fun i => if i = 5 then ((p3.toInt8.toInt32).toInt8.toInt32) else (fun i => if i = 4 then ((p2.toInt8.toInt32).toInt8.toInt32) else (fun i => if i = 3 then (76 : Int32) else (fun i => if i = 2 then (76 : Int32) else (fun i => if i = 1 then (89 : Int32) else (fun i => if i = 0 then (72 : Int32) else f i) i) i) i) i) i) i) i) i) i) i) := AI.set A11 S11 M11 G11 W11
  have K11 : Keep h0 h11 [a1] := K10.wr W11 (Or.inl (List.mem_of_getElem? (i := 0) rfl))
  have N11 := Fr.snoc X11 N10 g_a1
  obtain ⟨cl12, A12, S12, M12, G12⟩ := id V11
  have hin12 : ¬ ((11 : Int32) < 0 ∨ cl12.slots.size ≤ ((11 : Int32)).toNatClampNeg) := inb_of S12 (own_i15 (by decide) hz)
  obtain ⟨T12, h12, X12, e12, W12, st12⟩ := stB X11 hx hZ e11 A12 (j := (11 : Int32)) hin12 (g := (mkF m 84 #[.val (.ref a1), .val (.int p2), .val (.int p3), .val (.long q4), .second] [(.int ((((q4.toUInt64 >>> ((24 : Int32) &&& 0x3f).toInt64.toUInt64).toInt64).toInt32).toInt8.toInt32)), (.int (11 : Int32)), (.ref a1)])) rfl rfl (hb hby d1_84)
  have V12 : AI Z h12 a1 .byte z (fun i => if i = 11 then (((((q4.toUInt64 >>> ((24 : Int32) &&& 0x3f).toInt64.toUInt64).toInt64).toInt32).toInt8.toInt32).toInt8.toInt32) else (fun i => if i = 10 then (((((q4.toUInt64 >>> ((16 : Int32) &&& 0x3f).toInt64.toUInt64).toInt64).toInt32).toInt8.toInt32).toInt8.toInt32) else (fun i => if i = 9 then (((((q4.toUInt64 >>> ((8 : Int32) &&& 0x3f).toInt64.toUInt64).toInt64).toInt32).toInt8.toInt32).toInt8.toInt32) else (fun i => if i = 8 then (((q4.toInt32).toInt8.toInt32).toInt8.toInt32) else (fun i => if i = 7 then ((((p3.toUInt32 >>> ((16 : Int32) &&& 31).toUInt32).toInt32).toInt8.toInt32).toInt8.toInt32) else (fun i => if i = 6 then ((((p3.toUInt32 >>> ((8 : Int32) &&& 31).toUInt32).toInt32).toInt8.toInt32).toInt8.toInt32) else (fun i => if i = 5 then ((p3.toInt8.toInt32).toInt8.toInt32) else (fun i => if i = 4 then ((p2.toInt8.toInt32).toInt8.toInt32) else (fun i => if i = 3 then (76 : Int32) else (fun i => if i = 2 then (76 : Int32) else (fun i => if i = 1 then (89 : Int32) else (fun i => if i = 0 then (72 : Int32) else f i) i) i) i) i) i) i) i) i) i) i) i) := AI.set A12 S12 M12 G12 W12
  have K12 : Keep h0 h12 [a1] := K11.wr W12 (Or.inl (List.mem_of_getElem? (i := 0) rfl))
  have N12 := Fr.snoc X12 N11 g_a1
  obtain ⟨cl13, A13, S13, M13, G13⟩ := id V12
  have hin13 : ¬ ((12 : Int32) < 0 ∨ cl13.slots.size ≤ ((12 : Int32)).toNatClampNeg) := inb_of S13 (own_i15 (by decide) hz)
  obtain ⟨T13, h13, X13, e13, W13, st13⟩ := stB X12 hx hZ e12 A13 (j := (12 : Int32)) hin13 (g := (mkF m 94 #[.val (.ref a1), .val (.int p2), .val (.int p3), .val (.long q4), .second] [(.int ((((q4.toUInt64 >>> ((32 : Int32) &&& 0x3f).toInt64.toUInt64).toInt64).toInt32).toInt8.toInt32)), (.int (12 : Int32)), (.ref a1)])) rfl rfl (hb hby d1_94)
  have V13 : AI Z h13 a1 .byte z (fun i => if i = 12 then (((((q4.toUInt64 >>> ((32 : Int32) &&& 0x3f).toInt64.toUInt64).toInt64).toInt32).toInt8.toInt32).toInt8.toInt32) else (fun i => if i = 11 then (((((q4.toUInt64 >>> ((24 : Int32) &&& 0x3f).toInt64.toUInt64).toInt64).toInt32).toInt8.toInt32).toInt8.toInt32) else (fun i => if i = 10 then (((((q4.toUInt64 >>> ((16 : Int32) &&& 0x3f).toInt64.toUInt64).toInt64).toInt32).toInt8.toInt32).toInt8.toInt32) else (fun i => if i = 9 then (((((q4.toUInt64 >>> ((8 : Int32) &&& 0x3f).toInt64.toUInt64).toInt64).toInt32).toInt8.toInt32).toInt8.toInt32) else (fun i => if i = 8 then (((q4.toInt32).toInt8.toInt32).toInt8.toInt32) else (fun i => if i = 7 then ((((p3.toUInt32 >>> ((16 : Int32) &&& 31).toUInt32).toInt32).toInt8.toInt32).toInt8.toInt32) else (fun i => if i = 6 then ((((p3.toUInt32 >>> ((8 : Int32) &&& 31).toUInt32).toInt32).toInt8.toInt32).toInt8.toInt32) else (fun i => if i = 5 then ((p3.toInt8.toInt32).toInt8.toInt32) else (fun i => if i = 4 then ((p2.toInt8.toInt32).toInt8.toInt32) else (fun i => if i = 3 then (76 : Int32) else (fun i => if i = 2 then (76 : Int32) else (fun i => if i = 1 then (89 : Int32) else (fun i => if i = 0 then (72 : Int32) else f i) i) i) i) i) i) i) i) i) i) i) i) i) := AI.set A13 S13 M13 G13 W13
  have K13 : Keep h0 h13 [a1] := K12.wr W13 (Or.inl (List.mem_of_getElem? (i := 0) rfl))
  have N13 := Fr.snoc X13 N12 g_a1
  obtain ⟨cl14, A14, S14, M14, G14⟩ := id V13
  have hin14 : ¬ ((13 : Int32) < 0 ∨ cl14.slots.size ≤ ((13 : Int32)).toNatClampNeg) := inb_of S14 (own_i15 (by decide) hz)
  obtain ⟨T14, h14, X14, e14, W14, st14⟩ := stB X13 hx hZ e13 A14 (j := (13 : Int32)) hin14 (g := (mkF m 104 #[.val (.ref a1), .val (.int p2), .val (.int p3), .val (.long q4), .second] [(.int ((((q4.toUInt64 >>> ((40 : Int32) &&& 0x3f).toInt64.toUInt64).toInt64).toInt32).toInt8.toInt32)), (.int (13 : Int32)), (.ref a1)])) rfl rfl (hb hby d1_104)
  have V14 : AI Z h14 a1 .byte z (fun i => if i = 13 then (((((q4.toUInt64 >>> ((40 : Int32) &&& 0x3f).toInt64.toUInt64).toInt64).toInt32).toInt8.toInt32).toInt8.toInt32) else (fun i => if i = 12 then (((((q4.toUInt64 >>> ((32 : Int32) &&& 0x3f).toInt64.toUInt64).toInt64).toInt32).toInt8.toInt32).toInt8.toInt32) else (fun i => if i = 11 then (((((q4.toUInt64 >>> ((24 : Int32) &&& 0x3f).toInt64.toUInt64).toInt64).toInt32).toInt8.toInt32).toInt8.toInt32) else (fun i => if i = 10 then (((((q4.toUInt64 >>> ((16 : Int32) &&& 0x3f).toInt64.toUInt64).toInt64).toInt32).toInt8.toInt32).toInt8.toInt32) else (fun i => if i = 9 then (((((q4.toUInt64 >>> ((8 : Int32) &&& 0x3f).toInt64.toUInt64).toInt64).toInt32).toInt8.toInt32).toInt8.toInt32) else (fun i => if i = 8 then (((q4.toInt32).toInt8.toInt32).toInt8.toInt32) else (fun i => if i = 7 then ((((p3.toUInt32 >>> ((16 : Int32) &&& 31).toUInt32).toInt32).toInt8.toInt32).toInt8.toInt32) else (fun i => if i = 6 then ((((p3.toUInt32 >>> ((8 : Int32) &&& 31).toUInt32).toInt32).toInt8.toInt32).toInt8.toInt32) else (fun i => if i = 5 then ((p3.toInt8.toInt32).toInt8.toInt32) else (fun i => if i = 4 then ((p2.toInt8.toInt32).toInt8.toInt32) else (fun i => if i = 3 then (76 : Int32) else (fun i => if i = 2 then (76 : Int32) else (fun i => if i = 1 then (89 : Int32) else (fun i => if i = 0 then (72 : Int32) else f i) i) i) i) i) i) i) i) i) i) i) i) i) i) := AI.set A14 S14 M14 G14 W14
  have K14 : Keep h0 h14 [a1] := K13.wr W14 (Or.inl (List.mem_of_getElem? (i := 0) rfl))
  have N14 := Fr.snoc X14 N13 g_a1
  obtain ⟨cl15, A15, S15, M15, G15⟩ := id V14
  have hin15 : ¬ ((14 : Int32) < 0 ∨ cl15.slots.size ≤ ((14 : Int32)).toNatClampNeg) := inb_of S15 (own_i15 (by decide) hz)
  obtain ⟨T15, h15, X15, e15, W15, st15⟩ := stB X14 hx hZ e14 A15 (j := (14 : Int32)) hin15 (g := (mkF m 114 #[.val (.ref a1), .val (.int p2), .val (.int p3), .val (.long q4), .second] [(.int ((((q4.toUInt64 >>> ((48 : Int32) &&& 0x3f).toInt64.toUInt64).toInt64).toInt32).toInt8.toInt32)), (.int (14 : Int32)), (.ref a1)])) rfl rfl (hb hby d1_114)
  have V15 : AI Z h15 a1 .byte z (fun i => if i = 14 then (((((q4.toUInt64 >>> ((48 : Int32) &&& 0x3f).toInt64.toUInt64).toInt64).toInt32).toInt8.toInt32).toInt8.toInt32) else (fun i => if i = 13 then (((((q4.toUInt64 >>> ((40 : Int32) &&& 0x3f).toInt64.toUInt64).toInt64).toInt32).toInt8.toInt32).toInt8.toInt32) else (fun i => if i = 12 then (((((q4.toUInt64 >>> ((32 : Int32) &&& 0x3f).toInt64.toUInt64).toInt64).toInt32).toInt8.toInt32).toInt8.toInt32) else (fun i => if i = 11 then (((((q4.toUInt64 >>> ((24 : Int32) &&& 0x3f).toInt64.toUInt64).toInt64).toInt32).toInt8.toInt32).toInt8.toInt32) else (fun i => if i = 10 then (((((q4.toUInt64 >>> ((16 : Int32) &&& 0x3f).toInt64.toUInt64).toInt64).toInt32).toInt8.toInt32).toInt8.toInt32) else (fun i => if i = 9 then (((((q4.toUInt64 >>> ((8 : Int32) &&& 0x3f).toInt64.toUInt64).toInt64).toInt32).toInt8.toInt32).toInt8.toInt32) else (fun i => if i = 8 then (((q4.toInt32).toInt8.toInt32).toInt8.toInt32) else (fun i => if i = 7 then ((((p3.toUInt32 >>> ((16 : Int32) &&& 31).toUInt32).toInt32).toInt8.toInt32).toInt8.toInt32) else (fun i => if i = 6 then ((((p3.toUInt32 >>> ((8 : Int32) &&& 31).toUInt32).toInt32).toInt8.toInt32).toInt8.toInt32) else (fun i => if i = 5 then ((p3.toInt8.toInt32).toInt8.toInt32) else (fun i => if i = 4 then ((p2.toInt8.toInt32).toInt8.toInt32) else (fun i => if i = 3 then (76 : Int32) else (fun i => if i = 2 then (76 : Int32) else (fun i => if i = 1 then (89 : Int32) else (fun i => if i = 0 then (72 : Int32) else f i) i) i) i) i) i) i) i) i) i) i) i) i) i) i) := AI.set A15 S15 M15 G15 W15
  have K15 : Keep h0 h15 [a1] := K14.wr W15 (Or.inl (List.mem_of_getElem? (i := 0) rfl))
  have N15 := Fr.snoc X15 N14 g_a1
  obtain ⟨cl16, A16, S16, M16, G16⟩ := id V15
  have hin16 : ¬ ((15 : Int32) < 0 ∨ cl16.slots.size ≤ ((15 : Int32)).toNatClampNeg) := inb_of S16 (own_i15 (by decide) hz)
  obtain ⟨T16, h16, X16, e16, W16, st16⟩ := stB X15 hx hZ e15 A16 (j := (15 : Int32)) hin16 (g := (mkF m 124 #[.val (.ref a1), .val (.int p2), .val (.int p3), .val (.long q4), .second] [(.int ((((q4.toUInt64 >>> ((56 : Int32) &&& 0x3f).toInt64.toUInt64).toInt64).toInt32).toInt8.toInt32)), (.int (15 : Int32)), (.ref a1)])) rfl rfl (hb hby d1_124)
  have V16 : AI Z h16 a1 .byte z (fun i => if i = 15 then (((((q4.toUInt64 >>> ((56 : Int32) &&& 0x3f).toInt64.toUInt64).toInt64).toInt32).toInt8.toInt32).toInt8.toInt32) else (fun i => if i = 14 then (((((q4.toUInt64 >>> ((48 : Int32) &&& 0x3f).toInt64.toUInt64).toInt64).toInt32).toInt8.toInt32).toInt8.toInt32) else (fun i => if i = 13 then (((((q4.toUInt64 >>> ((40 : Int32) &&& 0x3f).toInt64.toUInt64).toInt64).toInt32).toInt8.toInt32).toInt8.toInt32) else (fun i => if i = 12 then (((((q4.toUInt64 >>> ((32 : Int32) &&& 0x3f).toInt64.toUInt64).toInt64).toInt32).toInt8.toInt32).toInt8.toInt32) else (fun i => if i = 11 then (((((q4.toUInt64 >>> ((24 : Int32) &&& 0x3f).toInt64.toUInt64).toInt64).toInt32).toInt8.toInt32).toInt8.toInt32) else (fun i => if i = 10 then (((((q4.toUInt64 >>> ((16 : Int32) &&& 0x3f).toInt64.toUInt64).toInt64).toInt32).toInt8.toInt32).toInt8.toInt32) else (fun i => if i = 9 then (((((q4.toUInt64 >>> ((8 : Int32) &&& 0x3f).toInt64.toUInt64).toInt64).toInt32).toInt8.toInt32).toInt8.toInt32) else (fun i => if i = 8 then (((q4.toInt32).toInt8.toInt32).toInt8.toInt32) else (fun i => if i = 7 then ((((p3.toUInt32 >>> ((16 : Int32) &&& 31).toUInt32).toInt32).toInt8.toInt32).toInt8.toInt32) else (fun i => if i = 6 then ((((p3.toUInt32 >>> ((8 : Int32) &&& 31).toUInt32).toInt32).toInt8.toInt32).toInt8.toInt32) else (fun i => if i = 5 then ((p3.toInt8.toInt32).toInt8.toInt32) else (fun i => if i = 4 then ((p2.toInt8.toInt32).toInt8.toInt32) else (fun i => if i = 3 then (76 : Int32) else (fun i => if i = 2 then (76 : Int32) else (fun i => if i = 1 then (89 : Int32) else (fun i => if i = 0 then (72 : Int32) else f i) i) i) i) i) i) i) i) i) i) i) i) i) i) i) i) := AI.set A16 S16 M16 G16 W16
  have K16 : Keep h0 h16 [a1] := K15.wr W16 (Or.inl (List.mem_of_getElem? (i := 0) rfl))
  have N16 := Fr.snoc X16 N15 g_a1
  obtain ⟨fs, hr, hrun, hended, hW, hsame⟩ := X16.leave (v := none) (fun _ => rfl)
  refine ⟨_, _, pre0 _ ?_, hrun, hended, _, _, rfl, ?_, ⟨_, rfl⟩, hW, hsame.mono (by decide) (by decide)⟩
  · show Steps p.tables e below (s₁.setTop (mkF m 0 #[.val (.ref a1), .val (.int p2), .val (.int p3), .val (.long q4), .second] [])) _
    refine XS.aloadN X0.here hx rfl (hb hby d1_0) rfl rfl ?_
    show Steps p.tables e below (s₁.setTop (mkF m 1 #[.val (.ref a1), .val (.int p2), .val (.int p3), .val (.long q4), .second] [(.ref a1)])) _
    refine XS.iconst X0.here hx rfl (hb hby d1_1) ?_
    show Steps p.tables e below (s₁.setTop (mkF m 2 #[.val (.ref a1), .val (.int p2), .val (.int p3), .val (.long q4), .second] [(.int (0 : Int32)), (.ref a1)])) _
    refine XS.bipush X0.here hx rfl (hb hby d1_2) ?_
    show Steps p.tables e below (s₁.setTop (mkF m 4 #[.val (.ref a1), .val (.int p2), .val (.int p3), .val (.long q4), .second] [(.int (72 : Int32)), (.int (0 : Int32)), (.ref a1)])) _
    refine st1 _ ?_
    show Steps p.tables e below (T1.setTop (mkF m 5 #[.val (.ref a1), .val (.int p2), .val (.int p3), .val (.long q4), .second] [])) _
    refine XS.aloadN X1.here hx rfl (hb hby d1_5) rfl rfl ?_
    show Steps p.tables e below (T1.setTop (mkF m 6 #[.val (.ref a1), .val (.int p2), .val (.int p3), .val (.long q4), .second] [(.ref a1)])) _
    refine XS.iconst X1.here hx rfl (hb hby d1_6) ?_
    show Steps p.tables e below (T1.setTop (mkF m 7 #[.val (.ref a1), .val (.int p2), .val (.int p3), .val (.long q4), .second] [(.int (1 : Int32)), (.ref a1)])) _
    refine XS.bipush X1.here hx rfl (hb hby d1_7) ?_
    show Steps p.tables e below (T1.setTop (mkF m 9 #[.val (.ref a1), .val (.int p2), .val (.int p3), .val (.long q4), .second] [(.int (89 : Int32)), (.int (1 : Int32)), (.ref a1)])) _
    refine st2 _ ?_
    show Steps p.tables e below (T2.setTop (mkF m 10 #[.val (.ref a1), .val (.int p2), .val (.int p3), .val (.long q4), .second] [])) _
    refine XS.aloadN X2.here hx rfl (hb hby d1_10) rfl rfl ?_
    show Steps p.tables e below (T2.setTop (mkF m 11 #[.val (.ref a1), .val (.int p2), .val (.int p3), .val (.long q4), .second] [(.ref a1)])) _
    refine XS.iconst X2.here hx rfl (hb hby d1_11) ?_
    show Steps p.tables e below (T2.setTop (mkF m 12 #[.val (.ref a1), .val (.int p2), .val (.int p3), .val (.long q4), .second] [(.int (2 : Int32)), (.ref a1)])) _
    refine XS.bipush X2.here hx rfl (hb hby d1_12) ?_
    show Steps p.tables e below (T2.setTop (mkF m 14 #[.val (.ref a1), .val (.int p2), .val (.int p3), .val (.long q4), .second] [(.int (76 : Int32)), (.int (2 : Int32)), (.ref a1)])) _
    refine st3 _ ?_
    show Steps p.tables e below (T3.setTop (mkF m 15 #[.val (.ref a1), .val (.int p2), .val (.int p3), .val (.long q4), .second] [])) _
    refine XS.aloadN X3.here hx rfl (hb hby d1_15) rfl rfl ?_
    show Steps p.tables e below (T3.setTop (mkF m 16 #[.val (.ref a1), .val (.int p2), .val (.int p3), .val (.long q4), .second] [(.ref a1)])) _
    refine XS.iconst X3.here hx rfl (hb hby d1_16) ?_
    show Steps p.tables e below (T3.setTop (mkF m 17 #[.val (.ref a1), .val (.int p2), .val (.int p3), .val (.long q4), .second] [(.int (3 : Int32)), (.ref a1)])) _
    refine XS.bipush X3.here hx rfl (hb hby d1_17) ?_
    show Steps p.tables e below (T3.setTop (mkF m 19 #[.val (.ref a1), .val (.int p2), .val (.int p3), .val (.long q4), .second] [(.int (76 : Int32)), (.int (3 : Int32)), (.ref a1)])) _
    refine st4 _ ?_
    show Steps p.tables e below (T4.setTop (mkF m 20 #[.val (.ref a1), .val (.int p2), .val (.int p3), .val (.long q4), .second] [])) _
    refine XS.aloadN X4.here hx rfl (hb hby d1_20) rfl rfl ?_
    show Steps p.tables e below (T4.setTop (mkF m 21 #[.val (.ref a1), .val (.int p2), .val (.int p3), .val (.long q4), .second] [(.ref a1)])) _
    refine XS.iconst X4.here hx rfl (hb hby d1_21) ?_
    show Steps p.tables e below (T4.setTop (mkF m 22 #[.val (.ref a1), .val (.int p2), .val (.int p3), .val (.long q4), .second] [(.int (4 : Int32)), (.ref a1)])) _
    refine XS.iloadN X4.here hx rfl (hb hby d1_22) rfl ?_
    show Steps p.tables e below (T4.setTop (mkF m 23 #[.val (.ref a1), .val (.int p2), .val (.int p3), .val (.long q4), .second] [(.int p2), (.int (4 : Int32)), (.ref a1)])) _
    refine XS.i2b X4.here hx rfl (hb hby d1_23) rfl ?_
    show Steps p.tables e below (T4.setTop (mkF m 24 #[.val (.ref a1), .val (.int p2), .val (.int p3), .val (.long q4), .second] [(.int (p2.toInt8.toInt32)), (.int (4 : Int32)), (.ref a1)])) _
    refine st5 _ ?_
    show Steps p.tables e below (T5.setTop (mkF m 25 #[.val (.ref a1), .val (.int p2), .val (.int p3), .val (.long q4), .second] [])) _
    refine XS.aloadN X5.here hx rfl (hb hby d1_25) rfl rfl ?_
    show Steps p.tables e below (T5.setTop (mkF m 26 #[.val (.ref a1), .val (.int p2), .val (.int p3), .val (.long q4), .second] [(.ref a1)])) _
    refine XS.iconst X5.here hx rfl (hb hby d1_26) ?_
    show Steps p.tables e below (T5.setTop (mkF m 27 #[.val (.ref a1), .val (.int p2), .val (.int p3), .val (.long q4), .second] [(.int (5 : Int32)), (.ref a1)])) _
    refine XS.iloadN X5.here hx rfl (hb hby d1_27) rfl ?_
    show Steps p.tables e below (T5.setTop (mkF m 28 #[.val (.ref a1), .val (.int p2), .val (.int p3), .val (.long q4), .second] [(.int p3), (.int (5 : Int32)), (.ref a1)])) _
    refine XS.i2b X5.here hx rfl (hb hby d1_28) rfl ?_
    show Steps p.tables e below (T5.setTop (mkF m 29 #[.val (.ref a1), .val (.int p2), .val (.int p3), .val (.long q4), .second] [(.int (p3.toInt8.toInt32)), (.int (5 : Int32)), (.ref a1)])) _
    refine st6 _ ?_
    show Steps p.tables e below (T6.setTop (mkF m 30 #[.val (.ref a1), .val (.int p2), .val (.int p3), .val (.long q4), .second] [])) _
    refine XS.aloadN X6.here hx rfl (hb hby d1_30) rfl rfl ?_
    show Steps p.tables e below (T6.setTop (mkF m 31 #[.val (.ref a1), .val (.int p2), .val (.int p3), .val (.long q4), .second] [(.ref a1)])) _
    refine XS.bipush X6.here hx rfl (hb hby d1_31) ?_
    show Steps p.tables e below (T6.setTop (mkF m 33 #[.val (.ref a1), .val (.int p2), .val (.int p3), .val (.long q4), .second] [(.int (6 : Int32)), (.ref a1)])) _
    refine XS.iloadN X6.here hx rfl (hb hby d1_33) rfl ?_
    show Steps p.tables e below (T6.setTop (mkF m 34 #[.val (.ref a1), .val (.int p2), .val (.int p3), .val (.long q4), .second] [(.int p3), (.int (6 : Int32)), (.ref a1)])) _
    refine XS.bipush X6.here hx rfl (hb hby d1_34) ?_
    show Steps p.tables e below (T6.setTop (mkF m 36 #[.val (.ref a1), .val (.int p2), .val (.int p3), .val (.long q4), .second] [(.int (8 : Int32)), (.int p3), (.int (6 : Int32)), (.ref a1)])) _
    refine XS.iushr X6.here hx rfl (hb hby d1_36) rfl ?_
    show Steps p.tables e below (T6.setTop (mkF m 37 #[.val (.ref a1), .val (.int p2), .val (.int p3), .val (.long q4), .second] [(.int ((p3.toUInt32 >>> ((8 : Int32) &&& 31).toUInt32).toInt32)), (.int (6 : Int32)), (.ref a1)])) _
    refine XS.i2b X6.here hx rfl (hb hby d1_37) rfl ?_
    show Steps p.tables e below (T6.setTop (mkF m 38 #[.val (.ref a1), .val (.int p2), .val (.int p3), .val (.long q4), .second] [(.int (((p3.toUInt32 >>> ((8 : Int32) &&& 31).toUInt32).toInt32).toInt8.toInt32)), (.int (6 : Int32)), (.ref a1)])) _
    refine st7 _ ?_
    show Steps p.tables e below (T7.setTop (mkF m 39 #[.val (.ref a1), .val (.int p2), .val (.int p3), .val (.long q4), .second] [])) _
    refine XS.aloadN X7.here hx rfl (hb hby d1_39) rfl rfl ?_
    show Steps p.tables e below (T7.setTop (mkF m 40 #[.val (.ref a1), .val (.int p2), .val (.int p3), .val (.long q4), .second] [(.ref a1)])) _
    refine XS.bipush X7.here hx rfl (hb hby d1_40) ?_
    show Steps p.tables e below (T7.setTop (mkF m 42 #[.val (.ref a1), .val (.int p2), .val (.int p3), .val (.long q4), .second] [(.int (7 : Int32)), (.ref a1)])) _
    refine XS.iloadN X7.here hx rfl (hb hby d1_42) rfl ?_
    show Steps p.tables e below (T7.setTop (mkF m 43 #[.val (.ref a1), .val (.int p2), .val (.int p3), .val (.long q4), .second] [(.int p3), (.int (7 : Int32)), (.ref a1)])) _
    refine XS.bipush X7.here hx rfl (hb hby d1_43) ?_
    show Steps p.tables e below (T7.setTop (mkF m 45 #[.val (.ref a1), .val (.int p2), .val (.int p3), .val (.long q4), .second] [(.int (16 : Int32)), (.int p3), (.int (7 : Int32)), (.ref a1)])) _
    refine XS.iushr X7.here hx rfl (hb hby d1_45) rfl ?_
    show Steps p.tables e below (T7.setTop (mkF m 46 #[.val (.ref a1), .val (.int p2), .val (.int p3), .val (.long q4), .second] [(.int ((p3.toUInt32 >>> ((16 : Int32) &&& 31).toUInt32).toInt32)), (.int (7 : Int32)), (.ref a1)])) _
    refine XS.i2b X7.here hx rfl (hb hby d1_46) rfl ?_
    show Steps p.tables e below (T7.setTop (mkF m 47 #[.val (.ref a1), .val (.int p2), .val (.int p3), .val (.long q4), .second] [(.int (((p3.toUInt32 >>> ((16 : Int32) &&& 31).toUInt32).toInt32).toInt8.toInt32)), (.int (7 : Int32)), (.ref a1)])) _
    refine st8 _ ?_
    show Steps p.tables e below (T8.setTop (mkF m 48 #[.val (.ref a1), .val (.int p2), .val (.int p3), .val (.long q4), .second] [])) _
    refine XS.aloadN X8.here hx rfl (hb hby d1_48) rfl rfl ?_
    show Steps p.tables e below (T8.setTop (mkF m 49 #[.val (.ref a1), .val (.int p2), .val (.int p3), .val (.long q4), .second] [(.ref a1)])) _
    refine XS.bipush X8.here hx rfl (hb hby d1_49) ?_
    show Steps p.tables e below (T8.setTop (mkF m 51 #[.val (.ref a1), .val (.int p2), .val (.int p3), .val (.long q4), .second] [(.int (8 : Int32)), (.ref a1)])) _
    refine XS.lloadN X8.here hx rfl (hb hby d1_51) rfl ?_
    show Steps p.tables e below (T8.setTop (mkF m 52 #[.val (.ref a1), .val (.int p2), .val (.int p3), .val (.long q4), .second] [(.long q4), (.int (8 : Int32)), (.ref a1)])) _
    refine XS.l2i X8.here hx rfl (hb hby d1_52) rfl ?_
    show Steps p.tables e below (T8.setTop (mkF m 53 #[.val (.ref a1), .val (.int p2), .val (.int p3), .val (.long q4), .second] [(.int (q4.toInt32)), (.int (8 : Int32)), (.ref a1)])) _
    refine XS.i2b X8.here hx rfl (hb hby d1_53) rfl ?_
    show Steps p.tables e below (T8.setTop (mkF m 54 #[.val (.ref a1), .val (.int p2), .val (.int p3), .val (.long q4), .second] [(.int ((q4.toInt32).toInt8.toInt32)), (.int (8 : Int32)), (.ref a1)])) _
    refine st9 _ ?_
    show Steps p.tables e below (T9.setTop (mkF m 55 #[.val (.ref a1), .val (.int p2), .val (.int p3), .val (.long q4), .second] [])) _
    refine XS.aloadN X9.here hx rfl (hb hby d1_55) rfl rfl ?_
    show Steps p.tables e below (T9.setTop (mkF m 56 #[.val (.ref a1), .val (.int p2), .val (.int p3), .val (.long q4), .second] [(.ref a1)])) _
    refine XS.bipush X9.here hx rfl (hb hby d1_56) ?_
    show Steps p.tables e below (T9.setTop (mkF m 58 #[.val (.ref a1), .val (.int p2), .val (.int p3), .val (.long q4), .second] [(.int (9 : Int32)), (.ref a1)])) _
    refine XS.lloadN X9.here hx rfl (hb hby d1_58) rfl ?_
    show Steps p.tables e below (T9.setTop (mkF m 59 #[.val (.ref a1), .val (.int p2), .val (.int p3), .val (.long q4), .second] [(.long q4), (.int (9 : Int32)), (.ref a1)])) _
    refine XS.bipush X9.here hx rfl (hb hby d1_59) ?_
    show Steps p.tables e below (T9.setTop (mkF m 61 #[.val (.ref a1), .val (.int p2), .val (.int p3), .val (.long q4), .second] [(.int (8 : Int32)), (.long q4), (.int (9 : Int32)), (.ref a1)])) _
    refine XS.lushr X9.here hx rfl (hb hby d1_61) rfl ?_
    show Steps p.tables e below (T9.setTop (mkF m 62 #[.val (.ref a1), .val (.int p2), .val (.int p3), .val (.long q4), .second] [(.long ((q4.toUInt64 >>> ((8 : Int32) &&& 0x3f).toInt64.toUInt64).toInt64)), (.int (9 : Int32)), (.ref a1)])) _
    refine XS.l2i X9.here hx rfl (hb hby d1_62) rfl ?_
    show Steps p.tables e below (T9.setTop (mkF m 63 #[.val (.ref a1), .val (.int p2), .val (.int p3), .val (.long q4), .second] [(.int (((q4.toUInt64 >>> ((8 : Int32) &&& 0x3f).toInt64.toUInt64).toInt64).toInt32)), (.int (9 : Int32)), (.ref a1)])) _
    refine XS.i2b X9.here hx rfl (hb hby d1_63) rfl ?_
    show Steps p.tables e below (T9.setTop (mkF m 64 #[.val (.ref a1), .val (.int p2), .val (.int p3), .val (.long q4), .second] [(.int ((((q4.toUInt64 >>> ((8 : Int32) &&& 0x3f).toInt64.toUInt64).toInt64).toInt32).toInt8.toInt32)), (.int (9 : Int32)), (.ref a1)])) _
    refine st10 _ ?_
    show Steps p.tables e below (T10.setTop (mkF m 65 #[.val (.ref a1), .val (.int p2), .val (.int p3), .val (.long q4), .second] [])) _
    refine XS.aloadN X10.here hx rfl (hb hby d1_65) rfl rfl ?_
    show Steps p.tables e below (T10.setTop (mkF m 66 #[.val (.ref a1), .val (.int p2), .val (.int p3), .val (.long q4), .second] [(.ref a1)])) _
    refine XS.bipush X10.here hx rfl (hb hby d1_66) ?_
    show Steps p.tables e below (T10.setTop (mkF m 68 #[.val (.ref a1), .val (.int p2), .val (.int p3), .val (.long q4), .second] [(.int (10 : Int32)), (.ref a1)])) _
    refine XS.lloadN X10.here hx rfl (hb hby d1_68) rfl ?_
    show Steps p.tables e below (T10.setTop (mkF m 69 #[.val (.ref a1), .val (.int p2), .val (.int p3), .val (.long q4), .second] [(.long q4), (.int (10 : Int32)), (.ref a1)])) _
    refine XS.bipush X10.here hx rfl (hb hby d1_69) ?_
    show Steps p.tables e below (T10.setTop (mkF m 71 #[.val (.ref a1), .val (.int p2), .val (.int p3), .val (.long q4), .second] [(.int (16 : Int32)), (.long q4), (.int (10 : Int32)), (.ref a1)])) _
    refine XS.lushr X10.here hx rfl (hb hby d1_71) rfl ?_
    show Steps p.tables e below (T10.setTop (mkF m 72 #[.val (.ref a1), .val (.int p2), .val (.int p3), .val (.long q4), .second] [(.long ((q4.toUInt64 >>> ((16 : Int32) &&& 0x3f).toInt64.toUInt64).toInt64)), (.int (10 : Int32)), (.ref a1)])) _
    refine XS.l2i X10.here hx rfl (hb hby d1_72) rfl ?_
    show Steps p.tables e below (T10.setTop (mkF m 73 #[.val (.ref a1), .val (.int p2), .val (.int p3), .val (.long q4), .second] [(.int (((q4.toUInt64 >>> ((16 : Int32) &&& 0x3f).toInt64.toUInt64).toInt64).toInt32)), (.int (10 : Int32)), (.ref a1)])) _
    refine XS.i2b X10.here hx rfl (hb hby d1_73) rfl ?_
    show Steps p.tables e below (T10.setTop (mkF m 74 #[.val (.ref a1), .val (.int p2), .val (.int p3), .val (.long q4), .second] [(.int ((((q4.toUInt64 >>> ((16 : Int32) &&& 0x3f).toInt64.toUInt64).toInt64).toInt32).toInt8.toInt32)), (.int (10 : Int32)), (.ref a1)])) _
    refine st11 _ ?_
    show Steps p.tables e below (T11.setTop (mkF m 75 #[.val (.ref a1), .val (.int p2), .val (.int p3), .val (.long q4), .second] [])) _
    refine XS.aloadN X11.here hx rfl (hb hby d1_75) rfl rfl ?_
    show Steps p.tables e below (T11.setTop (mkF m 76 #[.val (.ref a1), .val (.int p2), .val (.int p3), .val (.long q4), .second] [(.ref a1)])) _
    refine XS.bipush X11.here hx rfl (hb hby d1_76) ?_
    show Steps p.tables e below (T11.setTop (mkF m 78 #[.val (.ref a1), .val (.int p2), .val (.int p3), .val (.long q4), .second] [(.int (11 : Int32)), (.ref a1)])) _
    refine XS.lloadN X11.here hx rfl (hb hby d1_78) rfl ?_
    show Steps p.tables e below (T11.setTop (mkF m 79 #[.val (.ref a1), .val (.int p2), .val (.int p3), .val (.long q4), .second] [(.long q4), (.int (11 : Int32)), (.ref a1)])) _
    refine XS.bipush X11.here hx rfl (hb hby d1_79) ?_
    show Steps p.tables e below (T11.setTop (mkF m 81 #[.val (.ref a1), .val (.int p2), .val (.int p3), .val (.long q4), .second] [(.int (24 : Int32)), (.long q4), (.int (11 : Int32)), (.ref a1)])) _
    refine XS.lushr X11.here hx rfl (hb hby d1_81) rfl ?_
    show Steps p.tables e below (T11.setTop (mkF m 82 #[.val (.ref a1), .val (.int p2), .val (.int p3), .val (.long q4), .second] [(.long ((q4.toUInt64 >>> ((24 : Int32) &&& 0x3f).toInt64.toUInt64).toInt64)), (.int (11 : Int32)), (.ref a1)])) _
    refine XS.l2i X11.here hx rfl (hb hby d1_82) rfl ?_
    show Steps p.tables e below (T11.setTop (mkF m 83 #[.val (.ref a1), .val (.int p2), .val (.int p3), .val (.long q4), .second] [(.int (((q4.toUInt64 >>> ((24 : Int32) &&& 0x3f).toInt64.toUInt64).toInt64).toInt32)), (.int (11 : Int32)), (.ref a1)])) _
    refine XS.i2b X11.here hx rfl (hb hby d1_83) rfl ?_
    show Steps p.tables e below (T11.setTop (mkF m 84 #[.val (.ref a1), .val (.int p2), .val (.int p3), .val (.long q4), .second] [(.int ((((q4.toUInt64 >>> ((24 : Int32) &&& 0x3f).toInt64.toUInt64).toInt64).toInt32).toInt8.toInt32)), (.int (11 : Int32)), (.ref a1)])) _
    refine st12 _ ?_
    show Steps p.tables e below (T12.setTop (mkF m 85 #[.val (.ref a1), .val (.int p2), .val (.int p3), .val (.long q4), .second] [])) _
    refine XS.aloadN X12.here hx rfl (hb hby d1_85) rfl rfl ?_
    show Steps p.tables e below (T12.setTop (mkF m 86 #[.val (.ref a1), .val (.int p2), .val (.int p3), .val (.long q4), .second] [(.ref a1)])) _
    refine XS.bipush X12.here hx rfl (hb hby d1_86) ?_
    show Steps p.tables e below (T12.setTop (mkF m 88 #[.val (.ref a1), .val (.int p2), .val (.int p3), .val (.long q4), .second] [(.int (12 : Int32)), (.ref a1)])) _
    refine XS.lloadN X12.here hx rfl (hb hby d1_88) rfl ?_
    show Steps p.tables e below (T12.setTop (mkF m 89 #[.val (.ref a1), .val (.int p2), .val (.int p3), .val (.long q4), .second] [(.long q4), (.int (12 : Int32)), (.ref a1)])) _
    refine XS.bipush X12.here hx rfl (hb hby d1_89) ?_
    show Steps p.tables e below (T12.setTop (mkF m 91 #[.val (.ref a1), .val (.int p2), .val (.int p3), .val (.long q4), .second] [(.int (32 : Int32)), (.long q4), (.int (12 : Int32)), (.ref a1)])) _
    refine XS.lushr X12.here hx rfl (hb hby d1_91) rfl ?_
    show Steps p.tables e below (T12.setTop (mkF m 92 #[.val (.ref a1), .val (.int p2), .val (.int p3), .val (.long q4), .second] [(.long ((q4.toUInt64 >>> ((32 : Int32) &&& 0x3f).toInt64.toUInt64).toInt64)), (.int (12 : Int32)), (.ref a1)])) _
    refine XS.l2i X12.here hx rfl (hb hby d1_92) rfl ?_
    show Steps p.tables e below (T12.setTop (mkF m 93 #[.val (.ref a1), .val (.int p2), .val (.int p3), .val (.long q4), .second] [(.int (((q4.toUInt64 >>> ((32 : Int32) &&& 0x3f).toInt64.toUInt64).toInt64).toInt32)), (.int (12 : Int32)), (.ref a1)])) _
    refine XS.i2b X12.here hx rfl (hb hby d1_93) rfl ?_
    show Steps p.tables e below (T12.setTop (mkF m 94 #[.val (.ref a1), .val (.int p2), .val (.int p3), .val (.long q4), .second] [(.int ((((q4.toUInt64 >>> ((32 : Int32) &&& 0x3f).toInt64.toUInt64).toInt64).toInt32).toInt8.toInt32)), (.int (12 : Int32)), (.ref a1)])) _
    refine st13 _ ?_
    show Steps p.tables e below (T13.setTop (mkF m 95 #[.val (.ref a1), .val (.int p2), .val (.int p3), .val (.long q4), .second] [])) _
    refine XS.aloadN X13.here hx rfl (hb hby d1_95) rfl rfl ?_
    show Steps p.tables e below (T13.setTop (mkF m 96 #[.val (.ref a1), .val (.int p2), .val (.int p3), .val (.long q4), .second] [(.ref a1)])) _
    refine XS.bipush X13.here hx rfl (hb hby d1_96) ?_
    show Steps p.tables e below (T13.setTop (mkF m 98 #[.val (.ref a1), .val (.int p2), .val (.int p3), .val (.long q4), .second] [(.int (13 : Int32)), (.ref a1)])) _
    refine XS.lloadN X13.here hx rfl (hb hby d1_98) rfl ?_
    show Steps p.tables e below (T13.setTop (mkF m 99 #[.val (.ref a1), .val (.int p2), .val (.int p3), .val (.long q4), .second] [(.long q4), (.int (13 : Int32)), (.ref a1)])) _
    refine XS.bipush X13.here hx rfl (hb hby d1_99) ?_
    show Steps p.tables e below (T13.setTop (mkF m 101 #[.val (.ref a1), .val (.int p2), .val (.int p3), .val (.long q4), .second] [(.int (40 : Int32)), (.long q4), (.int (13 : Int32)), (.ref a1)])) _
    refine XS.lushr X13.here hx rfl (hb hby d1_101) rfl ?_
    show Steps p.tables e below (T13.setTop (mkF m 102 #[.val (.ref a1), .val (.int p2), .val (.int p3), .val (.long q4), .second] [(.long ((q4.toUInt64 >>> ((40 : Int32) &&& 0x3f).toInt64.toUInt64).toInt64)), (.int (13 : Int32)), (.ref a1)])) _
    refine XS.l2i X13.here hx rfl (hb hby d1_102) rfl ?_
    show Steps p.tables e below (T13.setTop (mkF m 103 #[.val (.ref a1), .val (.int p2), .val (.int p3), .val (.long q4), .second] [(.int (((q4.toUInt64 >>> ((40 : Int32) &&& 0x3f).toInt64.toUInt64).toInt64).toInt32)), (.int (13 : Int32)), (.ref a1)])) _
    refine XS.i2b X13.here hx rfl (hb hby d1_103) rfl ?_
    show Steps p.tables e below (T13.setTop (mkF m 104 #[.val (.ref a1), .val (.int p2), .val (.int p3), .val (.long q4), .second] [(.int ((((q4.toUInt64 >>> ((40 : Int32) &&& 0x3f).toInt64.toUInt64).toInt64).toInt32).toInt8.toInt32)), (.int (13 : Int32)), (.ref a1)])) _
    refine st14 _ ?_
    show Steps p.tables e below (T14.setTop (mkF m 105 #[.val (.ref a1), .val (.int p2), .val (.int p3), .val (.long q4), .second] [])) _
    refine XS.aloadN X14.here hx rfl (hb hby d1_105) rfl rfl ?_
    show Steps p.tables e below (T14.setTop (mkF m 106 #[.val (.ref a1), .val (.int p2), .val (.int p3), .val (.long q4), .second] [(.ref a1)])) _
    refine XS.bipush X14.here hx rfl (hb hby d1_106) ?_
    show Steps p.tables e below (T14.setTop (mkF m 108 #[.val (.ref a1), .val (.int p2), .val (.int p3), .val (.long q4), .second] [(.int (14 : Int32)), (.ref a1)])) _
    refine XS.lloadN X14.here hx rfl (hb hby d1_108) rfl ?_
    show Steps p.tables e below (T14.setTop (mkF m 109 #[.val (.ref a1), .val (.int p2), .val (.int p3), .val (.long q4), .second] [(.long q4), (.int (14 : Int32)), (.ref a1)])) _
    refine XS.bipush X14.here hx rfl (hb hby d1_109) ?_
    show Steps p.tables e below (T14.setTop (mkF m 111 #[.val (.ref a1), .val (.int p2), .val (.int p3), .val (.long q4), .second] [(.int (48 : Int32)), (.long q4), (.int (14 : Int32)), (.ref a1)])) _
    refine XS.lushr X14.here hx rfl (hb hby d1_111) rfl ?_
    show Steps p.tables e below (T14.setTop (mkF m 112 #[.val (.ref a1), .val (.int p2), .val (.int p3), .val (.long q4), .second] [(.long ((q4.toUInt64 >>> ((48 : Int32) &&& 0x3f).toInt64.toUInt64).toInt64)), (.int (14 : Int32)), (.ref a1)])) _
    refine XS.l2i X14.here hx rfl (hb hby d1_112) rfl ?_
    show Steps p.tables e below (T14.setTop (mkF m 113 #[.val (.ref a1), .val (.int p2), .val (.int p3), .val (.long q4), .second] [(.int (((q4.toUInt64 >>> ((48 : Int32) &&& 0x3f).toInt64.toUInt64).toInt64).toInt32)), (.int (14 : Int32)), (.ref a1)])) _
    refine XS.i2b X14.here hx rfl (hb hby d1_113) rfl ?_
    show Steps p.tables e below (T14.setTop (mkF m 114 #[.val (.ref a1), .val (.int p2), .val (.int p3), .val (.long q4), .second] [(.int ((((q4.toUInt64 >>> ((48 : Int32) &&& 0x3f).toInt64.toUInt64).toInt64).toInt32).toInt8.toInt32)), (.int (14 : Int32)), (.ref a1)])) _
    refine st15 _ ?_
    show Steps p.tables e below (T15.setTop (mkF m 115 #[.val (.ref a1), .val (.int p2), .val (.int p3), .val (.long q4), .second] [])) _
    refine XS.aloadN X15.here hx rfl (hb hby d1_115) rfl rfl ?_
    show Steps p.tables e below (T15.setTop (mkF m 116 #[.val (.ref a1), .val (.int p2), .val (.int p3), .val (.long q4), .second] [(.ref a1)])) _
    refine XS.bipush X15.here hx rfl (hb hby d1_116) ?_
    show Steps p.tables e below (T15.setTop (mkF m 118 #[.val (.ref a1), .val (.int p2), .val (.int p3), .val (.long q4), .second] [(.int (15 : Int32)), (.ref a1)])) _
    refine XS.lloadN X15.here hx rfl (hb hby d1_118) rfl ?_
    show Steps p.tables e below (T15.setTop (mkF m 119 #[.val (.ref a1), .val (.int p2), .val (.int p3), .val (.long q4), .second] [(.long q4), (.int (15 : Int32)), (.ref a1)])) _
    refine XS.bipush X15.here hx rfl (hb hby d1_119) ?_
    show Steps p.tables e below (T15.setTop (mkF m 121 #[.val (.ref a1), .val (.int p2), .val (.int p3), .val (.long q4), .second] [(.int (56 : Int32)), (.long q4), (.int (15 : Int32)), (.ref a1)])) _
    refine XS.lushr X15.here hx rfl (hb hby d1_121) rfl ?_
    show Steps p.tables e below (T15.setTop (mkF m 122 #[.val (.ref a1), .val (.int p2), .val (.int p3), .val (.long q4), .second] [(.long ((q4.toUInt64 >>> ((56 : Int32) &&& 0x3f).toInt64.toUInt64).toInt64)), (.int (15 : Int32)), (.ref a1)])) _
    refine XS.l2i X15.here hx rfl (hb hby d1_122) rfl ?_
    show Steps p.tables e below (T15.setTop (mkF m 123 #[.val (.ref a1), .val (.int p2), .val (.int p3), .val (.long q4), .second] [(.int (((q4.toUInt64 >>> ((56 : Int32) &&& 0x3f).toInt64.toUInt64).toInt64).toInt32)), (.int (15 : Int32)), (.ref a1)])) _
    refine XS.i2b X15.here hx rfl (hb hby d1_123) rfl ?_
    show Steps p.tables e below (T15.setTop (mkF m 124 #[.val (.ref a1), .val (.int p2), .val (.int p3), .val (.long q4), .second] [(.int ((((q4.toUInt64 >>> ((56 : Int32) &&& 0x3f).toInt64.toUInt64).toInt64).toInt32).toInt8.toInt32)), (.int (15 : Int32)), (.ref a1)])) _
    refine st16 _ ?_
    show Steps p.tables e below (T16.setTop (mkF m 125 #[.val (.ref a1), .val (.int p2), .val (.int p3), .val (.long q4), .second] [])) _
    exact X16.returnOut hx Bd.returns (hb hby d1_125) hr
  · show Q1 Z a1 p2 p3 q4 z f h0 n0 _ T16.heap _
    rw [e16]
    exact ⟨rfl, N16, K16, V16⟩
theorem d2_0 : decode prog_20_method_6_code 0 = .ok (.aload_n 0, 1) := by decide +kernel
theorem d2_1 : decode prog_20_method_6_code 1 = .ok (.arraylength, 1) := by decide +kernel
theorem d2_2 : decode prog_20_method_6_code 2 = .ok (.iconst 4, 1) := by decide +kernel
theorem d2_3 : decode prog_20_method_6_code 3 = .ok (.if_icmp .le 13, 3) := by decide +kernel
theorem d2_6 : decode prog_20_method_6_code 6 = .ok (.aload_n 0, 1) := by decide +kernel
theorem d2_7 : decode prog_20_method_6_code 7 = .ok (.iconst 4, 1) := by decide +kernel
theorem d2_8 : decode prog_20_method_6_code 8 = .ok (.baload, 1) := by decide +kernel
theorem d2_9 : decode prog_20_method_6_code 9 = .ok (.ifCond .ne 7, 3) := by decide +kernel
theorem d2_12 : decode prog_20_method_6_code 12 = .ok (.iconst 1, 1) := by decide +kernel
theorem d2_13 : decode prog_20_method_6_code 13 = .ok (.goto 4, 3) := by decide +kernel
theorem d2_17 : decode prog_20_method_6_code 17 = .ok (.ireturn, 1) := by decide +kernel
theorem d2_16 : decode prog_20_method_6_code 16 = .ok (.iconst 0, 1) := by decide +kernel
theorem pn_1 : plainName "com/example/cardinality/cardinality/format/HyllValue" = true := by first | (simp [plainName, overriddenIn]; done) | decide +kernel
def f2 (z : Int32) (f : Nat → Int32) : Int32 := if (4 : Int32) < z then if (f ((4 : Int32)).toNatClampNeg) = (0 : Int32) then (1 : Int32) else (0 : Int32) else (0 : Int32)
theorem ef_2 (m : MethodId) (x0 : Addr) : entryFrame m #[(.ref x0)] 1 = mkF m 0 #[.val (.ref x0)] [] := by first | (simp [entryFrame, mkF, argsToLocals, Value.category]; done) | rfl
def Q2 (Z : State) (a1 : Addr) (z : Int32) (f : Nat → Int32) (h0 : Heap) (n0 : Nat) (v : Option Value) (h : Heap) (L : List Loc) : Prop := v = some (.int (f2 z f)) ∧ Fr n0 L ∧ h = h0
set_option maxRecDepth 65536 in
set_option maxHeartbeats 40000000 in
theorem rm2 (l : Launch) (Z : State) (a0 : Array Value) (hw : ∀ d ∈ tables_1, d.before a0 Z = true) (ws : List Jvm.Cond) (a1 : Addr) (z : Int32) (f : Nat → Int32) (h0 : Heap) (n0 : Nat) (Z0 : n0 ≤ h0.size) (V_a1 : AI Z h0 a1 .byte z f) :
    MetFree l (⟨"com/example/cardinality/cardinality/format/HyllValue", "isDense", "([B)Z"⟩ : MethodName) (head1 (Jvm.Cond.code (⟨"com/example/cardinality/cardinality/format/HyllValue", "isDense", "([B)Z"⟩ : MethodName) prog_20_method_6_code 1 (some .boolean) :: ws) ({ frames := 0, cells := 0, slots := 0, locals := 0 } : Room)) (fun a U => a = #[(.ref a1)] ∧ Z.Warmed39 U.vm ∧ U.heap = h0) (fun _ _ _ _ _ => True) (fun _ U o U' => ∃ v L, o = .returned v ∧ Q2 Z a1 z f h0 n0 v U'.heap L ∧ FrameEnd U o U' L ({ frames := 0, cells := 0, slots := 0, locals := 0 } : Room).cells ({ frames := 0, cells := 0, slots := 0, locals := 0 } : Room).slots) := by
  refine MetFree.of_bodySF (plainFor_of_name pn_1) hisR ?_
  intro p e s m args below meth c s₁ Bd hml0 hP hK
  obtain ⟨rfl, hZ, hh⟩ := hP
  have hx := Bd.exec
  have hby := Bd.bytes
  have hml : c.maxLocals = 1 := hml0
  have hown : s.vm.findClass "com/example/cardinality/cardinality/format/HyllValue" = some m.cls := findClass_of_methodNamed Bd.named
  have hnm := (name_of_methodNamed Bd.named Bd.method).1
  have X0 : Stand p l e ({ frames := 0, cells := 0, slots := 0, locals := 0 } : Room) s m #[(.ref a1)] below meth c s₁ [] 0 0 := Stand.of_body Bd
  have e0 : s₁.heap = h0 := by rw [← hh, Bd.state]; rfl
  have N0 := Fr.nil n0
  have pre0 : ∀ t, Steps p.tables e below (s₁.setTop (mkF m 0 #[.val (.ref a1)] [])) t → Steps p.tables e below (s₁.setTop (entryFrame m #[(.ref a1)] 1)) t := fun t k => castTop (ef_2 m a1) k
  obtain ⟨cl1, A1, S1, M1, -⟩ := id V_a1
  have pre2 : ∀ t, Steps p.tables e below (s₁.setTop (mkF m 3 #[.val (.ref a1)] [(.int (4 : Int32)), (.int z)])) t → Steps p.tables e below (s₁.setTop (entryFrame m #[(.ref a1)] 1)) t := fun t k => pre0 t (by
    show Steps p.tables e below (s₁.setTop (mkF m 0 #[.val (.ref a1)] [])) _
    refine XS.aloadN X0.here hx rfl (hb hby d2_0) rfl rfl ?_
    show Steps p.tables e below (s₁.setTop (mkF m 1 #[.val (.ref a1)] [(.ref a1)])) _
    refine X0.arraylength hx (by rw [e0]; exact A1.1) (State.isArrayOf_alike hZ.alike A1.2.1) (g := (mkF m 1 #[.val (.ref a1)] [(.ref a1)])) rfl rfl (hb hby d2_1) _ ?_
    rw [len_of S1 M1]
    show Steps p.tables e below (s₁.setTop (mkF m 2 #[.val (.ref a1)] [(.int z)])) _
    refine XS.iconst X0.here hx rfl (hb hby d2_2) ?_
    exact k)
  by_cases hc3 : (4 : Int32) < z
  · obtain ⟨cl4, A4, S4, M4, G4⟩ := id V_a1
    have hin4 : ¬ ((4 : Int32) < 0 ∨ cl4.slots.size ≤ ((4 : Int32)).toNatClampNeg) := inb_of S4 (⟨by decide, hc3⟩)
    have hat4 : cl4.slots[((4 : Int32)).toNatClampNeg]? = some (.int (f ((4 : Int32)).toNatClampNeg)) := AI.at S4 G4 hin4
    have pre5 : ∀ t, Steps p.tables e below (s₁.setTop (mkF m 9 #[.val (.ref a1)] [(.int (f ((4 : Int32)).toNatClampNeg))])) t → Steps p.tables e below (s₁.setTop (entryFrame m #[(.ref a1)] 1)) t := fun t k => pre2 t (by
      show Steps p.tables e below (s₁.setTop (mkF m 3 #[.val (.ref a1)] [(.int (4 : Int32)), (.int z)])) _
      refine XS.icmpNo X0.here hx rfl (hb hby d2_3) rfl (tlt hc3).2.2.2 ?_
      show Steps p.tables e below (s₁.setTop (mkF m 6 #[.val (.ref a1)] [])) _
      refine XS.aloadN X0.here hx rfl (hb hby d2_6) rfl rfl ?_
      show Steps p.tables e below (s₁.setTop (mkF m 7 #[.val (.ref a1)] [(.ref a1)])) _
      refine XS.iconst X0.here hx rfl (hb hby d2_7) ?_
      show Steps p.tables e below (s₁.setTop (mkF m 8 #[.val (.ref a1)] [(.int (4 : Int32)), (.ref a1)])) _
      refine X0.baloadBytes hx (j := (4 : Int32)) (v := (.int (f ((4 : Int32)).toNatClampNeg))) (by rw [e0]; exact A4.1) (State.isArrayOf_alike hZ.alike A4.2.1) A4.2.2 hin4 hat4 (g := (mkF m 8 #[.val (.ref a1)] [(.int (4 : Int32)), (.ref a1)])) rfl rfl (hb hby d2_8) _ ?_
      exact k)
    by_cases hc6 : (f ((4 : Int32)).toNatClampNeg) = (0 : Int32)
    · obtain ⟨fs, hr, hrun, hended, hW, hsame⟩ := X0.leave (v := some (.int (1 : Int32))) (fun h => by rw [Bd.returns] at h; cases h)
      refine ⟨_, _, pre5 _ ?_, hrun, hended, _, _, rfl, ?_, ⟨_, rfl⟩, hW, hsame.mono (by decide) (by decide)⟩
      · show Steps p.tables e below (s₁.setTop (mkF m 9 #[.val (.ref a1)] [(.int (f ((4 : Int32)).toNatClampNeg))])) _
        refine XS.ifNo X0.here hx rfl (hb hby d2_9) rfl ((if0 _ _).trans (teq hc6).2) ?_
        show Steps p.tables e below (s₁.setTop (mkF m 12 #[.val (.ref a1)] [])) _
        refine XS.iconst X0.here hx rfl (hb hby d2_12) ?_
        show Steps p.tables e below (s₁.setTop (mkF m 13 #[.val (.ref a1)] [(.int (1 : Int32))])) _
        refine XS.goto X0.here hx rfl (pc0 := 13) (pc' := 17) rfl (hb hby d2_13) (by decide) (by decide) ?_
        show Steps p.tables e below (s₁.setTop (mkF m 17 #[.val (.ref a1)] [(.int (1 : Int32))])) _
        exact retN X0 hx (t := .boolean) Bd.returns (by simp) (hb hby d2_17) hr
      · show Q2 Z a1 z f h0 n0 _ s₁.heap _
        rw [e0]
        exact ⟨by rw [show (f2 z f) = (1 : Int32) from by first | (rw [f2, if_pos hc3, if_pos hc6]; done) | (simp only [f2, if_pos hc3, if_pos hc6]; done) | rfl], N0, rfl⟩
    · obtain ⟨fs, hr, hrun, hended, hW, hsame⟩ := X0.leave (v := some (.int (0 : Int32))) (fun h => by rw [Bd.returns] at h; cases h)
      refine ⟨_, _, pre5 _ ?_, hrun, hended, _, _, rfl, ?_, ⟨_, rfl⟩, hW, hsame.mono (by decide) (by decide)⟩
      · show Steps p.tables e below (s₁.setTop (mkF m 9 #[.val (.ref a1)] [(.int (f ((4 : Int32)).toNatClampNeg))])) _
        refine XS.ifYes X0.here hx rfl (pc0 := 9) (pc' := 16) rfl (hb hby d2_9) rfl ((if0 _ _).trans (feq hc6).2) (by decide) (by decide) ?_
        show Steps p.tables e below (s₁.setTop (mkF m 16 #[.val (.ref a1)] [])) _
        refine XS.iconst X0.here hx rfl (hb hby d2_16) ?_
        show Steps p.tables e below (s₁.setTop (mkF m 17 #[.val (.ref a1)] [(.int (0 : Int32))])) _
        exact retN X0 hx (t := .boolean) Bd.returns (by simp) (hb hby d2_17) hr
      · show Q2 Z a1 z f h0 n0 _ s₁.heap _
        rw [e0]
        exact ⟨by rw [show (f2 z f) = (0 : Int32) from by first | (rw [f2, if_pos hc3, if_neg hc6]; done) | (simp only [f2, if_pos hc3, if_neg hc6]; done) | rfl], N0, rfl⟩
  · obtain ⟨fs, hr, hrun, hended, hW, hsame⟩ := X0.leave (v := some (.int (0 : Int32))) (fun h => by rw [Bd.returns] at h; cases h)
    refine ⟨_, _, pre2 _ ?_, hrun, hended, _, _, rfl, ?_, ⟨_, rfl⟩, hW, hsame.mono (by decide) (by decide)⟩
    · show Steps p.tables e below (s₁.setTop (mkF m 3 #[.val (.ref a1)] [(.int (4 : Int32)), (.int z)])) _
      refine XS.icmpYes X0.here hx rfl (pc0 := 3) (pc' := 16) rfl (hb hby d2_3) rfl (flt hc3).2.2.2 (by decide) (by decide) ?_
      show Steps p.tables e below (s₁.setTop (mkF m 16 #[.val (.ref a1)] [])) _
      refine XS.iconst X0.here hx rfl (hb hby d2_16) ?_
      show Steps p.tables e below (s₁.setTop (mkF m 17 #[.val (.ref a1)] [(.int (0 : Int32))])) _
      exact retN X0 hx (t := .boolean) Bd.returns (by simp) (hb hby d2_17) hr
    · show Q2 Z a1 z f h0 n0 _ s₁.heap _
      rw [e0]
      exact ⟨by rw [show (f2 z f) = (0 : Int32) from by first | (rw [f2, if_neg hc3]; done) | (simp only [f2, if_neg hc3]; done) | rfl], N0, rfl⟩
theorem pd_0 : parseMethodDescriptor "([BIIJ)V" = some ⟨[(.array .byte), .int, .int, .long], none⟩ := by decide +kernel
theorem pd_1 : parseMethodDescriptor "([B)Z" = some ⟨[(.array .byte)], some .boolean⟩ := by decide +kernel
def f0 (q1 : Int64) (p2 : Int32) (p3 : Int32) (p4 : Int32) : Int32 := if (f2 (12304 : Int32) (fun i => if i = 12303 then ((((p3.toUInt32 >>> ((16 : Int32) &&& 31).toUInt32).toInt32).toInt8.toInt32).toInt8.toInt32) else (fun i => if i = 17 then ((((p3.toUInt32 >>> ((8 : Int32) &&& 31).toUInt32).toInt32).toInt8.toInt32).toInt8.toInt32) else (fun i => if i = 16 then ((p3.toInt8.toInt32).toInt8.toInt32) else (hdr (fun _ => 0) (0 : Int32) p2 q1) i) i) i)) = (0 : Int32) then (0 : Int32) else if (f2 (20 : Int32) (fun i => if i = 19 then ((((((16384 : Int32) - ((p4 &&& (63 : Int32)) + (1 : Int32))) - ((((p4.toUInt32 >>> ((11 : Int32) &&& 31).toUInt32).toInt32) &&& (3 : Int32)) + (1 : Int32))) - (1 : Int32)).toInt8.toInt32).toInt8.toInt32) else (fun i => if i = 18 then ((((64 : Int32) ||| ((((((16384 : Int32) - ((p4 &&& (63 : Int32)) + (1 : Int32))) - ((((p4.toUInt32 >>> ((11 : Int32) &&& 31).toUInt32).toInt32) &&& (3 : Int32)) + (1 : Int32))) - (1 : Int32)).toUInt32 >>> ((8 : Int32) &&& 31).toUInt32).toInt32)).toInt8.toInt32).toInt8.toInt32) else (fun i => if i = 17 then (((((128 : Int32) ||| ((((p4.toUInt32 >>> ((6 : Int32) &&& 31).toUInt32).toInt32) &&& (31 : Int32)) <<< ((2 : Int32) &&& 31))) ||| (((p4.toUInt32 >>> ((11 : Int32) &&& 31).toUInt32).toInt32) &&& (3 : Int32))).toInt8.toInt32).toInt8.toInt32) else (fun i => if i = 16 then (((p4 &&& (63 : Int32)).toInt8.toInt32).toInt8.toInt32) else (hdr (fun _ => 0) (1 : Int32) p2 q1) i) i) i) i)) = (0 : Int32) then (1 : Int32) else (0 : Int32)
theorem ef_0 (m : MethodId) (x0 : Int64) (x1 : Int32) (x2 : Int32) (x3 : Int32) : entryFrame m #[(.long x0), (.int x1), (.int x2), (.int x3)] maxLocals = mkF m 0 #[.val (.long x0), .second, .val (.int x1), .val (.int x2), .val (.int x3), .unset, .unset, .unset, .unset, .unset, .unset] [] := by first | (simp [entryFrame, mkF, argsToLocals, Value.category, maxLocals]; done) | rfl
def Q0 (Z : State) (q1 : Int64) (p2 : Int32) (p3 : Int32) (p4 : Int32) (h0 : Heap) (n0 : Nat) (v : Option Value) (h : Heap) (L : List Loc) : Prop := v = some (.int (f0 q1 p2 p3 p4)) ∧ Fr n0 L
set_option maxRecDepth 65536 in
set_option maxHeartbeats 40000000 in
theorem rm0 (l : Launch) (Z : State) (a0 : Array Value) (hw : ∀ d ∈ tables_1, d.before a0 Z = true) (ws : List Jvm.Cond) (q1 : Int64) (p2 : Int32) (p3 : Int32) (p4 : Int32) (h0 : Heap) (n0 : Nat) (Z0 : n0 ≤ h0.size) :
    MetFree l x (head1 (Jvm.Cond.code x code maxLocals ret :: ws) room_1) (fun a U => a = #[(.long q1), (.int p2), (.int p3), (.int p4)] ∧ Z.Warmed39 U.vm ∧ U.heap = h0) (fun _ _ _ _ _ => True) (fun _ U o U' => ∃ v L, o = .returned v ∧ Q0 Z q1 p2 p3 p4 h0 n0 v U'.heap L ∧ FrameEnd U o U' L room_1.cells room_1.slots) := by
  refine MetFree.of_bodySF (plainFor_of_name pn_0) hisR ?_
  intro p e s m args below meth c s₁ Bd hml0 hP hK
  obtain ⟨rfl, hZ, hh⟩ := hP
  have hx := Bd.exec
  have hby := Bd.bytes
  have hml : c.maxLocals = 11 := hml0
  have hown : s.vm.findClass "com/example/cardinality/cardinality/format/HyllValueIsDensePinLaw" = some m.cls := findClass_of_methodNamed Bd.named
  have hnm := (name_of_methodNamed Bd.named Bd.method).1
  have X0 : Stand p l e room_1 s m #[(.long q1), (.int p2), (.int p3), (.int p4)] below meth c s₁ [] 0 0 := Stand.of_body Bd
  have e0 : s₁.heap = h0 := by rw [← hh, Bd.state]; rfl
  have N0 := Fr.nil n0
  have pre0 : ∀ t, Steps p.tables e below (s₁.setTop (mkF m 0 #[.val (.long q1), .second, .val (.int p2), .val (.int p3), .val (.int p4), .unset, .unset, .unset, .unset, .unset, .unset] [])) t → Steps p.tables e below (s₁.setTop (entryFrame m #[(.long q1), (.int p2), (.int p3), (.int p4)] maxLocals)) t := fun t k => castTop (ef_0 m q1 p2 p3 p4) k
  obtain ⟨T1, h1, k1, X1, e1, E1, A1, st1⟩ := newP X0 hx hZ (hw _ (List.mem_of_getElem? (i := 0) rfl)) e0 (g := (mkF m 3 #[.val (.long q1), .second, .val (.int p2), .val (.int p3), .val (.int p4), .unset, .unset, .unset, .unset, .unset, .unset] [(.int (12304 : Int32))])) rfl (hb hby at_3) rfl (by decide) (cap := 12304) (by decide) (by decide) (by decide) (by decide)
  obtain ⟨b1, g1⟩ : ∃ z, z = h0.size := ⟨_, rfl⟩
  rw [← g1] at A1 st1
  have g_b1 : n0 ≤ b1 := Nat.le_trans Z0 (Nat.le_of_eq g1.symm)
  have sz_b1 : h0.size ≤ b1 := Nat.le_trans (Keep.refl h0 []).1 (Nat.le_of_eq g1.symm)
  have K1 : Keep h0 h1 [] := (Keep.refl h0 []).ext E1
  have V_b1 : AI Z h1 b1 .byte (12304 : Int32) (fun _ => 0) := AI.new A1 (by decide) rfl
  obtain ⟨_, _, ⟨T2, L2, k2, n2⟩, -, X2, ⟨Lc2, hQ2, l2, y2, z2⟩, st2⟩ := Jvm.LawKit.callS X1 hx (y := (⟨"com/example/cardinality/cardinality/format/HyllValueIsDensePinLaw", "header", "([BIIJ)V"⟩ : MethodName)) hown (mvT hZ (hw _ (List.mem_of_getElem? (i := 1) rfl))) (mvT hZ (hw _ (List.mem_of_getElem? (i := 2) rfl))) (mvT hZ (hw _ (List.mem_of_getElem? (i := 3) rfl))) (mvT hZ (hw _ (List.mem_of_getElem? (i := 4) rfl))) (by decide) (backOf (W := 0) (rm1 l Z a0 hw [] b1 (0 : Int32) p2 q1 (12304 : Int32) (fun _ => 0) h1 n0 (Nat.le_trans Z0 K1.1) V_b1 g_b1 (by decide : (15 : Int32) < (12304 : Int32))) hZ (hw _ (List.mem_of_getElem? (i := 4) rfl)) (hw _ (List.mem_of_getElem? (i := 3) rfl)) (by decide) (by decide)) (g := (mkF m 12 #[.val (.long q1), .second, .val (.int p2), .val (.int p3), .val (.int p4), .val (.ref b1), .unset, .unset, .unset, .unset, .unset] [(.long q1), (.int p2), (.int (0 : Int32)), (.ref b1)])) rfl (by rw [hml]; rfl) (argsL := [(.ref b1), (.int (0 : Int32)), (.int p2), (.long q1)]) (rest := []) (lenOf pd_0 rfl) rfl (by show 2 * 0 + _ ≤ _; exact Nat.le_of_eq rfl) (hb hby at_12) (fun _ _ => ⟨rfl, e1, (by decide : 1 + 0 ≤ _), (by decide : 12304 + 0 ≤ _)⟩)
  dsimp only [Pt.U, Pt.locs, Pt.cells, Pt.slots] at X2 l2 y2 z2 st2 hQ2
  subst l2 y2 z2
  obtain ⟨rfl, N2q, K2, P2_0⟩ := hQ2
  have K3 : Keep h0 T2.heap [] := K1.trans K2 (allS (Or.inr sz_b1) all0)
  have N2 := Fr.app N0 N2q
  obtain ⟨cl4, A4, S4, M4, G4⟩ := id P2_0
  have hin4 : ¬ ((16 : Int32) < 0 ∨ cl4.slots.size ≤ ((16 : Int32)).toNatClampNeg) := inb_of S4 ⟨by decide, by decide⟩
  obtain ⟨T4, h4, X4, e4, W4, st4⟩ := stB X2 hx hZ rfl A4 (j := (16 : Int32)) hin4 (g := (mkF m 21 #[.val (.long q1), .second, .val (.int p2), .val (.int p3), .val (.int p4), .val (.ref b1), .unset, .unset, .unset, .unset, .unset] [(.int (p3.toInt8.toInt32)), (.int (16 : Int32)), (.ref b1)])) rfl rfl (hb hby at_21)
  have V4 : AI Z h4 b1 .byte (12304 : Int32) (fun i => if i = 16 then ((p3.toInt8.toInt32).toInt8.toInt32) else (hdr (fun _ => 0) (0 : Int32) p2 q1) i) := AI.set A4 S4 M4 G4 W4
  have K4 : Keep h0 h4 [] := K3.wr W4 (Or.inr sz_b1)
  have N4 := Fr.snoc X4 N2 g_b1
  obtain ⟨cl5, A5, S5, M5, G5⟩ := id V4
  have hin5 : ¬ ((17 : Int32) < 0 ∨ cl5.slots.size ≤ ((17 : Int32)).toNatClampNeg) := inb_of S5 ⟨by decide, by decide⟩
  obtain ⟨T5, h5, X5, e5, W5, st5⟩ := stB X4 hx hZ e4 A5 (j := (17 : Int32)) hin5 (g := (mkF m 31 #[.val (.long q1), .second, .val (.int p2), .val (.int p3), .val (.int p4), .val (.ref b1), .unset, .unset, .unset, .unset, .unset] [(.int (((p3.toUInt32 >>> ((8 : Int32) &&& 31).toUInt32).toInt32).toInt8.toInt32)), (.int (17 : Int32)), (.ref b1)])) rfl rfl (hb hby at_31)
  have V5 : AI Z h5 b1 .byte (12304 : Int32) (fun i => if i = 17 then ((((p3.toUInt32 >>> ((8 : Int32) &&& 31).toUInt32).toInt32).toInt8.toInt32).toInt8.toInt32) else (fun i => if i = 16 then ((p3.toInt8.toInt32).toInt8.toInt32) else (hdr (fun _ => 0) (0 : Int32) p2 q1) i) i) := AI.set A5 S5 M5 G5 W5
  have K5 : Keep h0 h5 [] := K4.wr W5 (Or.inr sz_b1)
  have N5 := Fr.snoc X5 N4 g_b1
  obtain ⟨cl6, A6, S6, M6, G6⟩ := id V5
  have hin6 : ¬ ((12303 : Int32) < 0 ∨ cl6.slots.size ≤ ((12303 : Int32)).toNatClampNeg) := inb_of S6 ⟨by decide, by decide⟩
  obtain ⟨T6, h6, X6, e6, W6, st6⟩ := stB X5 hx hZ e5 A6 (j := (12303 : Int32)) hin6 (g := (mkF m 42 #[.val (.long q1), .second, .val (.int p2), .val (.int p3), .val (.int p4), .val (.ref b1), .unset, .unset, .unset, .unset, .unset] [(.int (((p3.toUInt32 >>> ((16 : Int32) &&& 31).toUInt32).toInt32).toInt8.toInt32)), (.int (12303 : Int32)), (.ref b1)])) rfl rfl (hb hby at_42)
  have V6 : AI Z h6 b1 .byte (12304 : Int32) (fun i => if i = 12303 then ((((p3.toUInt32 >>> ((16 : Int32) &&& 31).toUInt32).toInt32).toInt8.toInt32).toInt8.toInt32) else (fun i => if i = 17 then ((((p3.toUInt32 >>> ((8 : Int32) &&& 31).toUInt32).toInt32).toInt8.toInt32).toInt8.toInt32) else (fun i => if i = 16 then ((p3.toInt8.toInt32).toInt8.toInt32) else (hdr (fun _ => 0) (0 : Int32) p2 q1) i) i) i) := AI.set A6 S6 M6 G6 W6
  have K6 : Keep h0 h6 [] := K5.wr W6 (Or.inr sz_b1)
  have N6 := Fr.snoc X6 N5 g_b1
  obtain ⟨T7, h7, k7, X7, e7, E7, A7, st7⟩ := newP X6 hx hZ (hw _ (List.mem_of_getElem? (i := 0) rfl)) e6 (g := (mkF m 88 #[.val (.long q1), .second, .val (.int p2), .val (.int p3), .val (.int p4), .val (.ref b1), .val (.int (p4 &&& (63 : Int32))), .val (.int (((p4.toUInt32 >>> ((6 : Int32) &&& 31).toUInt32).toInt32) &&& (31 : Int32))), .val (.int (((p4.toUInt32 >>> ((11 : Int32) &&& 31).toUInt32).toInt32) &&& (3 : Int32))), .val (.int ((((16384 : Int32) - ((p4 &&& (63 : Int32)) + (1 : Int32))) - ((((p4.toUInt32 >>> ((11 : Int32) &&& 31).toUInt32).toInt32) &&& (3 : Int32)) + (1 : Int32))) - (1 : Int32))), .unset] [(.int (20 : Int32))])) rfl (hb hby at_88) rfl (by decide) (cap := 20) (by decide) (by decide) (by decide) (by decide)
  obtain ⟨b7, g7⟩ : ∃ z, z = h6.size := ⟨_, rfl⟩
  rw [← g7] at A7 st7
  have ne8 : b1 ≠ b7 := Nat.ne_of_lt (Nat.lt_of_lt_of_le V6.lt (Nat.le_of_eq g7.symm))
  have g_b7 : n0 ≤ b7 := Nat.le_trans (Nat.le_trans Z0 K6.1) (Nat.le_of_eq g7.symm)
  have sz_b7 : h0.size ≤ b7 := Nat.le_trans K6.1 (Nat.le_of_eq g7.symm)
  have K7 : Keep h0 h7 [] := K6.ext E7
  have V_b7 : AI Z h7 b7 .byte (20 : Int32) (fun _ => 0) := AI.new A7 (by decide) rfl
  obtain ⟨_, _, ⟨T9, L9, k9, n9⟩, -, X9, ⟨Lc9, hQ9, l9, y9, z9⟩, st9⟩ := Jvm.LawKit.callS X7 hx (y := (⟨"com/example/cardinality/cardinality/format/HyllValueIsDensePinLaw", "header", "([BIIJ)V"⟩ : MethodName)) hown (mvT hZ (hw _ (List.mem_of_getElem? (i := 1) rfl))) (mvT hZ (hw _ (List.mem_of_getElem? (i := 2) rfl))) (mvT hZ (hw _ (List.mem_of_getElem? (i := 3) rfl))) (mvT hZ (hw _ (List.mem_of_getElem? (i := 4) rfl))) (by decide) (backOf (W := 0) (rm1 l Z a0 hw [] b7 (1 : Int32) p2 q1 (20 : Int32) (fun _ => 0) h7 n0 (Nat.le_trans Z0 K7.1) V_b7 g_b7 (by decide : (15 : Int32) < (20 : Int32))) hZ (hw _ (List.mem_of_getElem? (i := 4) rfl)) (hw _ (List.mem_of_getElem? (i := 3) rfl)) (by decide) (by decide)) (g := (mkF m 97 #[.val (.long q1), .second, .val (.int p2), .val (.int p3), .val (.int p4), .val (.ref b1), .val (.int (p4 &&& (63 : Int32))), .val (.int (((p4.toUInt32 >>> ((6 : Int32) &&& 31).toUInt32).toInt32) &&& (31 : Int32))), .val (.int (((p4.toUInt32 >>> ((11 : Int32) &&& 31).toUInt32).toInt32) &&& (3 : Int32))), .val (.int ((((16384 : Int32) - ((p4 &&& (63 : Int32)) + (1 : Int32))) - ((((p4.toUInt32 >>> ((11 : Int32) &&& 31).toUInt32).toInt32) &&& (3 : Int32)) + (1 : Int32))) - (1 : Int32))), .val (.ref b7)] [(.long q1), (.int p2), (.int (1 : Int32)), (.ref b7)])) rfl (by rw [hml]; rfl) (argsL := [(.ref b7), (.int (1 : Int32)), (.int p2), (.long q1)]) (rest := []) (lenOf pd_0 rfl) rfl (by show 2 * 0 + _ ≤ _; exact Nat.le_of_eq rfl) (hb hby at_97) (fun _ _ => ⟨rfl, e7, (by decide : 2 + 0 ≤ _), (by decide : 12324 + 0 ≤ _)⟩)
  dsimp only [Pt.U, Pt.locs, Pt.cells, Pt.slots] at X9 l9 y9 z9 st9 hQ9
  subst l9 y9 z9
  obtain ⟨rfl, N9q, K9, P9_0⟩ := hQ9
  have K10 : Keep h0 T9.heap [] := K7.trans K9 (allS (Or.inr sz_b7) all0)
  have N9 := Fr.app N6 N9q
  obtain ⟨cl11, A11, S11, M11, G11⟩ := id P9_0
  have hin11 : ¬ ((16 : Int32) < 0 ∨ cl11.slots.size ≤ ((16 : Int32)).toNatClampNeg) := inb_of S11 ⟨by decide, by decide⟩
  obtain ⟨T11, h11, X11, e11, W11, st11⟩ := stB X9 hx hZ rfl A11 (j := (16 : Int32)) hin11 (g := (mkF m 107 #[.val (.long q1), .second, .val (.int p2), .val (.int p3), .val (.int p4), .val (.ref b1), .val (.int (p4 &&& (63 : Int32))), .val (.int (((p4.toUInt32 >>> ((6 : Int32) &&& 31).toUInt32).toInt32) &&& (31 : Int32))), .val (.int (((p4.toUInt32 >>> ((11 : Int32) &&& 31).toUInt32).toInt32) &&& (3 : Int32))), .val (.int ((((16384 : Int32) - ((p4 &&& (63 : Int32)) + (1 : Int32))) - ((((p4.toUInt32 >>> ((11 : Int32) &&& 31).toUInt32).toInt32) &&& (3 : Int32)) + (1 : Int32))) - (1 : Int32))), .val (.ref b7)] [(.int ((p4 &&& (63 : Int32)).toInt8.toInt32)), (.int (16 : Int32)), (.ref b7)])) rfl rfl (hb hby at_107)
  have V11 : AI Z h11 b7 .byte (20 : Int32) (fun i => if i = 16 then (((p4 &&& (63 : Int32)).toInt8.toInt32).toInt8.toInt32) else (hdr (fun _ => 0) (1 : Int32) p2 q1) i) := AI.set A11 S11 M11 G11 W11
  have K11 : Keep h0 h11 [] := K10.wr W11 (Or.inr sz_b7)
  have N11 := Fr.snoc X11 N9 g_b7
  obtain ⟨cl12, A12, S12, M12, G12⟩ := id V11
  have hin12 : ¬ ((17 : Int32) < 0 ∨ cl12.slots.size ≤ ((17 : Int32)).toNatClampNeg) := inb_of S12 ⟨by decide, by decide⟩
  obtain ⟨T12, h12, X12, e12, W12, st12⟩ := stB X11 hx hZ e11 A12 (j := (17 : Int32)) hin12 (g := (mkF m 124 #[.val (.long q1), .second, .val (.int p2), .val (.int p3), .val (.int p4), .val (.ref b1), .val (.int (p4 &&& (63 : Int32))), .val (.int (((p4.toUInt32 >>> ((6 : Int32) &&& 31).toUInt32).toInt32) &&& (31 : Int32))), .val (.int (((p4.toUInt32 >>> ((11 : Int32) &&& 31).toUInt32).toInt32) &&& (3 : Int32))), .val (.int ((((16384 : Int32) - ((p4 &&& (63 : Int32)) + (1 : Int32))) - ((((p4.toUInt32 >>> ((11 : Int32) &&& 31).toUInt32).toInt32) &&& (3 : Int32)) + (1 : Int32))) - (1 : Int32))), .val (.ref b7)] [(.int ((((128 : Int32) ||| ((((p4.toUInt32 >>> ((6 : Int32) &&& 31).toUInt32).toInt32) &&& (31 : Int32)) <<< ((2 : Int32) &&& 31))) ||| (((p4.toUInt32 >>> ((11 : Int32) &&& 31).toUInt32).toInt32) &&& (3 : Int32))).toInt8.toInt32)), (.int (17 : Int32)), (.ref b7)])) rfl rfl (hb hby at_124)
  have V12 : AI Z h12 b7 .byte (20 : Int32) (fun i => if i = 17 then (((((128 : Int32) ||| ((((p4.toUInt32 >>> ((6 : Int32) &&& 31).toUInt32).toInt32) &&& (31 : Int32)) <<< ((2 : Int32) &&& 31))) ||| (((p4.toUInt32 >>> ((11 : Int32) &&& 31).toUInt32).toInt32) &&& (3 : Int32))).toInt8.toInt32).toInt8.toInt32) else (fun i => if i = 16 then (((p4 &&& (63 : Int32)).toInt8.toInt32).toInt8.toInt32) else (hdr (fun _ => 0) (1 : Int32) p2 q1) i) i) := AI.set A12 S12 M12 G12 W12
  have K12 : Keep h0 h12 [] := K11.wr W12 (Or.inr sz_b7)
  have N12 := Fr.snoc X12 N11 g_b7
  obtain ⟨cl13, A13, S13, M13, G13⟩ := id V12
  have hin13 : ¬ ((18 : Int32) < 0 ∨ cl13.slots.size ≤ ((18 : Int32)).toNatClampNeg) := inb_of S13 ⟨by decide, by decide⟩
  obtain ⟨T13, h13, X13, e13, W13, st13⟩ := stB X12 hx hZ e12 A13 (j := (18 : Int32)) hin13 (g := (mkF m 138 #[.val (.long q1), .second, .val (.int p2), .val (.int p3), .val (.int p4), .val (.ref b1), .val (.int (p4 &&& (63 : Int32))), .val (.int (((p4.toUInt32 >>> ((6 : Int32) &&& 31).toUInt32).toInt32) &&& (31 : Int32))), .val (.int (((p4.toUInt32 >>> ((11 : Int32) &&& 31).toUInt32).toInt32) &&& (3 : Int32))), .val (.int ((((16384 : Int32) - ((p4 &&& (63 : Int32)) + (1 : Int32))) - ((((p4.toUInt32 >>> ((11 : Int32) &&& 31).toUInt32).toInt32) &&& (3 : Int32)) + (1 : Int32))) - (1 : Int32))), .val (.ref b7)] [(.int (((64 : Int32) ||| ((((((16384 : Int32) - ((p4 &&& (63 : Int32)) + (1 : Int32))) - ((((p4.toUInt32 >>> ((11 : Int32) &&& 31).toUInt32).toInt32) &&& (3 : Int32)) + (1 : Int32))) - (1 : Int32)).toUInt32 >>> ((8 : Int32) &&& 31).toUInt32).toInt32)).toInt8.toInt32)), (.int (18 : Int32)), (.ref b7)])) rfl rfl (hb hby at_138)
  have V13 : AI Z h13 b7 .byte (20 : Int32) (fun i => if i = 18 then ((((64 : Int32) ||| ((((((16384 : Int32) - ((p4 &&& (63 : Int32)) + (1 : Int32))) - ((((p4.toUInt32 >>> ((11 : Int32) &&& 31).toUInt32).toInt32) &&& (3 : Int32)) + (1 : Int32))) - (1 : Int32)).toUInt32 >>> ((8 : Int32) &&& 31).toUInt32).toInt32)).toInt8.toInt32).toInt8.toInt32) else (fun i => if i = 17 then (((((128 : Int32) ||| ((((p4.toUInt32 >>> ((6 : Int32) &&& 31).toUInt32).toInt32) &&& (31 : Int32)) <<< ((2 : Int32) &&& 31))) ||| (((p4.toUInt32 >>> ((11 : Int32) &&& 31).toUInt32).toInt32) &&& (3 : Int32))).toInt8.toInt32).toInt8.toInt32) else (fun i => if i = 16 then (((p4 &&& (63 : Int32)).toInt8.toInt32).toInt8.toInt32) else (hdr (fun _ => 0) (1 : Int32) p2 q1) i) i) i) := AI.set A13 S13 M13 G13 W13
  have K13 : Keep h0 h13 [] := K12.wr W13 (Or.inr sz_b7)
  have N13 := Fr.snoc X13 N12 g_b7
  obtain ⟨cl14, A14, S14, M14, G14⟩ := id V13
  have hin14 : ¬ ((19 : Int32) < 0 ∨ cl14.slots.size ≤ ((19 : Int32)).toNatClampNeg) := inb_of S14 ⟨by decide, by decide⟩
  obtain ⟨T14, h14, X14, e14, W14, st14⟩ := stB X13 hx hZ e13 A14 (j := (19 : Int32)) hin14 (g := (mkF m 146 #[.val (.long q1), .second, .val (.int p2), .val (.int p3), .val (.int p4), .val (.ref b1), .val (.int (p4 &&& (63 : Int32))), .val (.int (((p4.toUInt32 >>> ((6 : Int32) &&& 31).toUInt32).toInt32) &&& (31 : Int32))), .val (.int (((p4.toUInt32 >>> ((11 : Int32) &&& 31).toUInt32).toInt32) &&& (3 : Int32))), .val (.int ((((16384 : Int32) - ((p4 &&& (63 : Int32)) + (1 : Int32))) - ((((p4.toUInt32 >>> ((11 : Int32) &&& 31).toUInt32).toInt32) &&& (3 : Int32)) + (1 : Int32))) - (1 : Int32))), .val (.ref b7)] [(.int (((((16384 : Int32) - ((p4 &&& (63 : Int32)) + (1 : Int32))) - ((((p4.toUInt32 >>> ((11 : Int32) &&& 31).toUInt32).toInt32) &&& (3 : Int32)) + (1 : Int32))) - (1 : Int32)).toInt8.toInt32)), (.int (19 : Int32)), (.ref b7)])) rfl rfl (hb hby at_146)
  have V14 : AI Z h14 b7 .byte (20 : Int32) (fun i => if i = 19 then ((((((16384 : Int32) - ((p4 &&& (63 : Int32)) + (1 : Int32))) - ((((p4.toUInt32 >>> ((11 : Int32) &&& 31).toUInt32).toInt32) &&& (3 : Int32)) + (1 : Int32))) - (1 : Int32)).toInt8.toInt32).toInt8.toInt32) else (fun i => if i = 18 then ((((64 : Int32) ||| ((((((16384 : Int32) - ((p4 &&& (63 : Int32)) + (1 : Int32))) - ((((p4.toUInt32 >>> ((11 : Int32) &&& 31).toUInt32).toInt32) &&& (3 : Int32)) + (1 : Int32))) - (1 : Int32)).toUInt32 >>> ((8 : Int32) &&& 31).toUInt32).toInt32)).toInt8.toInt32).toInt8.toInt32) else (fun i => if i = 17 then (((((128 : Int32) ||| ((((p4.toUInt32 >>> ((6 : Int32) &&& 31).toUInt32).toInt32) &&& (31 : Int32)) <<< ((2 : Int32) &&& 31))) ||| (((p4.toUInt32 >>> ((11 : Int32) &&& 31).toUInt32).toInt32) &&& (3 : Int32))).toInt8.toInt32).toInt8.toInt32) else (fun i => if i = 16 then (((p4 &&& (63 : Int32)).toInt8.toInt32).toInt8.toInt32) else (hdr (fun _ => 0) (1 : Int32) p2 q1) i) i) i) i) := AI.set A14 S14 M14 G14 W14
  have K14 : Keep h0 h14 [] := K13.wr W14 (Or.inr sz_b7)
  have N14 := Fr.snoc X14 N13 g_b7
  have F15 := ((((((V6.ext E7).keep K9 (ninS ne8 nin0)).other W11 ne8).other W12 ne8).other W13 ne8).other W14 ne8)
  obtain ⟨_, _, ⟨T16, L16, k16, n16⟩, -, X16, ⟨Lc16, hQ16, l16, y16, z16⟩, st16⟩ := Jvm.LawKit.callS X14 hx (y := (⟨"com/example/cardinality/cardinality/format/HyllValue", "isDense", "([B)Z"⟩ : MethodName)) hown (mvT hZ (hw _ (List.mem_of_getElem? (i := 5) rfl))) (mvT hZ (hw _ (List.mem_of_getElem? (i := 6) rfl))) (mvT hZ (hw _ (List.mem_of_getElem? (i := 7) rfl))) (mvT hZ (hw _ (List.mem_of_getElem? (i := 8) rfl))) (by decide) (backOf (W := 0) (rm2 l Z a0 hw [] b1 (12304 : Int32) (fun i => if i = 12303 then ((((p3.toUInt32 >>> ((16 : Int32) &&& 31).toUInt32).toInt32).toInt8.toInt32).toInt8.toInt32) else (fun i => if i = 17 then ((((p3.toUInt32 >>> ((8 : Int32) &&& 31).toUInt32).toInt32).toInt8.toInt32).toInt8.toInt32) else (fun i => if i = 16 then ((p3.toInt8.toInt32).toInt8.toInt32) else (hdr (fun _ => 0) (0 : Int32) p2 q1) i) i) i) h14 n0 (Nat.le_trans Z0 K14.1) F15) hZ (hw _ (List.mem_of_getElem? (i := 8) rfl)) (hw _ (List.mem_of_getElem? (i := 7) rfl)) (by decide) (by decide)) (g := (mkF m 149 #[.val (.long q1), .second, .val (.int p2), .val (.int p3), .val (.int p4), .val (.ref b1), .val (.int (p4 &&& (63 : Int32))), .val (.int (((p4.toUInt32 >>> ((6 : Int32) &&& 31).toUInt32).toInt32) &&& (31 : Int32))), .val (.int (((p4.toUInt32 >>> ((11 : Int32) &&& 31).toUInt32).toInt32) &&& (3 : Int32))), .val (.int ((((16384 : Int32) - ((p4 &&& (63 : Int32)) + (1 : Int32))) - ((((p4.toUInt32 >>> ((11 : Int32) &&& 31).toUInt32).toInt32) &&& (3 : Int32)) + (1 : Int32))) - (1 : Int32))), .val (.ref b7)] [(.ref b1)])) rfl (by rw [hml]; rfl) (argsL := [(.ref b1)]) (rest := []) (lenOf pd_1 rfl) rfl (by show 2 * 0 + _ ≤ _; exact Nat.le_of_eq rfl) (hb hby at_149) (fun _ _ => ⟨rfl, e14, (by decide : 2 + 0 ≤ _), (by decide : 12324 + 0 ≤ _)⟩)
  dsimp only [Pt.U, Pt.locs, Pt.cells, Pt.slots] at X16 l16 y16 z16 st16 hQ16
  subst l16 y16 z16
  obtain ⟨rfl, N16q, e16⟩ := hQ16
  have N16 := Fr.app N14 N16q
  have pre17 : ∀ t, Steps p.tables e below (T16.setTop (mkF m 152 #[.val (.long q1), .second, .val (.int p2), .val (.int p3), .val (.int p4), .val (.ref b1), .val (.int (p4 &&& (63 : Int32))), .val (.int (((p4.toUInt32 >>> ((6 : Int32) &&& 31).toUInt32).toInt32) &&& (31 : Int32))), .val (.int (((p4.toUInt32 >>> ((11 : Int32) &&& 31).toUInt32).toInt32) &&& (3 : Int32))), .val (.int ((((16384 : Int32) - ((p4 &&& (63 : Int32)) + (1 : Int32))) - ((((p4.toUInt32 >>> ((11 : Int32) &&& 31).toUInt32).toInt32) &&& (3 : Int32)) + (1 : Int32))) - (1 : Int32))), .val (.ref b7)] [(.int (f2 (12304 : Int32) (fun i => if i = 12303 then ((((p3.toUInt32 >>> ((16 : Int32) &&& 31).toUInt32).toInt32).toInt8.toInt32).toInt8.toInt32) else (fun i => if i = 17 then ((((p3.toUInt32 >>> ((8 : Int32) &&& 31).toUInt32).toInt32).toInt8.toInt32).toInt8.toInt32) else (fun i => if i = 16 then ((p3.toInt8.toInt32).toInt8.toInt32) else (hdr (fun _ => 0) (0 : Int32) p2 q1) i) i) i)))])) t → Steps p.tables e below (s₁.setTop (entryFrame m #[(.long q1), (.int p2), (.int p3), (.int p4)] maxLocals)) t := fun t k => pre0 t (by
    show Steps p.tables e below (s₁.setTop (mkF m 0 #[.val (.long q1), .second, .val (.int p2), .val (.int p3), .val (.int p4), .unset, .unset, .unset, .unset, .unset, .unset] [])) _
    refine XS.sipush X0.here hx rfl (hb hby at_0) ?_
    show Steps p.tables e below (s₁.setTop (mkF m 3 #[.val (.long q1), .second, .val (.int p2), .val (.int p3), .val (.int p4), .unset, .unset, .unset, .unset, .unset, .unset] [(.int (12304 : Int32))])) _
    refine st1 _ ?_
    show Steps p.tables e below (T1.setTop (mkF m 5 #[.val (.long q1), .second, .val (.int p2), .val (.int p3), .val (.int p4), .unset, .unset, .unset, .unset, .unset, .unset] [(.ref b1)])) _
    refine XS.astore X1.here hx rfl (hb hby at_5) rfl rfl (l' := #[.val (.long q1), .second, .val (.int p2), .val (.int p3), .val (.int p4), .val (.ref b1), .unset, .unset, .unset, .unset, .unset]) rfl ?_
    show Steps p.tables e below (T1.setTop (mkF m 7 #[.val (.long q1), .second, .val (.int p2), .val (.int p3), .val (.int p4), .val (.ref b1), .unset, .unset, .unset, .unset, .unset] [])) _
    refine XS.aload X1.here hx rfl (hb hby at_7) rfl rfl ?_
    show Steps p.tables e below (T1.setTop (mkF m 9 #[.val (.long q1), .second, .val (.int p2), .val (.int p3), .val (.int p4), .val (.ref b1), .unset, .unset, .unset, .unset, .unset] [(.ref b1)])) _
    refine XS.iconst X1.here hx rfl (hb hby at_9) ?_
    show Steps p.tables e below (T1.setTop (mkF m 10 #[.val (.long q1), .second, .val (.int p2), .val (.int p3), .val (.int p4), .val (.ref b1), .unset, .unset, .unset, .unset, .unset] [(.int (0 : Int32)), (.ref b1)])) _
    refine XS.iloadN X1.here hx rfl (hb hby at_10) rfl ?_
    show Steps p.tables e below (T1.setTop (mkF m 11 #[.val (.long q1), .second, .val (.int p2), .val (.int p3), .val (.int p4), .val (.ref b1), .unset, .unset, .unset, .unset, .unset] [(.int p2), (.int (0 : Int32)), (.ref b1)])) _
    refine XS.lloadN X1.here hx rfl (hb hby at_11) rfl ?_
    show Steps p.tables e below (T1.setTop (mkF m 12 #[.val (.long q1), .second, .val (.int p2), .val (.int p3), .val (.int p4), .val (.ref b1), .unset, .unset, .unset, .unset, .unset] [(.long q1), (.int p2), (.int (0 : Int32)), (.ref b1)])) _
    refine st2 _ ?_
    show Steps p.tables e below (T2.setTop (mkF m 15 #[.val (.long q1), .second, .val (.int p2), .val (.int p3), .val (.int p4), .val (.ref b1), .unset, .unset, .unset, .unset, .unset] [])) _
    refine XS.aload X2.here hx rfl (hb hby at_15) rfl rfl ?_
    show Steps p.tables e below (T2.setTop (mkF m 17 #[.val (.long q1), .second, .val (.int p2), .val (.int p3), .val (.int p4), .val (.ref b1), .unset, .unset, .unset, .unset, .unset] [(.ref b1)])) _
    refine XS.bipush X2.here hx rfl (hb hby at_17) ?_
    show Steps p.tables e below (T2.setTop (mkF m 19 #[.val (.long q1), .second, .val (.int p2), .val (.int p3), .val (.int p4), .val (.ref b1), .unset, .unset, .unset, .unset, .unset] [(.int (16 : Int32)), (.ref b1)])) _
    refine XS.iloadN X2.here hx rfl (hb hby at_19) rfl ?_
    show Steps p.tables e below (T2.setTop (mkF m 20 #[.val (.long q1), .second, .val (.int p2), .val (.int p3), .val (.int p4), .val (.ref b1), .unset, .unset, .unset, .unset, .unset] [(.int p3), (.int (16 : Int32)), (.ref b1)])) _
    refine XS.i2b X2.here hx rfl (hb hby at_20) rfl ?_
    show Steps p.tables e below (T2.setTop (mkF m 21 #[.val (.long q1), .second, .val (.int p2), .val (.int p3), .val (.int p4), .val (.ref b1), .unset, .unset, .unset, .unset, .unset] [(.int (p3.toInt8.toInt32)), (.int (16 : Int32)), (.ref b1)])) _
    refine st4 _ ?_
    show Steps p.tables e below (T4.setTop (mkF m 22 #[.val (.long q1), .second, .val (.int p2), .val (.int p3), .val (.int p4), .val (.ref b1), .unset, .unset, .unset, .unset, .unset] [])) _
    refine XS.aload X4.here hx rfl (hb hby at_22) rfl rfl ?_
    show Steps p.tables e below (T4.setTop (mkF m 24 #[.val (.long q1), .second, .val (.int p2), .val (.int p3), .val (.int p4), .val (.ref b1), .unset, .unset, .unset, .unset, .unset] [(.ref b1)])) _
    refine XS.bipush X4.here hx rfl (hb hby at_24) ?_
    show Steps p.tables e below (T4.setTop (mkF m 26 #[.val (.long q1), .second, .val (.int p2), .val (.int p3), .val (.int p4), .val (.ref b1), .unset, .unset, .unset, .unset, .unset] [(.int (17 : Int32)), (.ref b1)])) _
    refine XS.iloadN X4.here hx rfl (hb hby at_26) rfl ?_
    show Steps p.tables e below (T4.setTop (mkF m 27 #[.val (.long q1), .second, .val (.int p2), .val (.int p3), .val (.int p4), .val (.ref b1), .unset, .unset, .unset, .unset, .unset] [(.int p3), (.int (17 : Int32)), (.ref b1)])) _
    refine XS.bipush X4.here hx rfl (hb hby at_27) ?_
    show Steps p.tables e below (T4.setTop (mkF m 29 #[.val (.long q1), .second, .val (.int p2), .val (.int p3), .val (.int p4), .val (.ref b1), .unset, .unset, .unset, .unset, .unset] [(.int (8 : Int32)), (.int p3), (.int (17 : Int32)), (.ref b1)])) _
    refine XS.iushr X4.here hx rfl (hb hby at_29) rfl ?_
    show Steps p.tables e below (T4.setTop (mkF m 30 #[.val (.long q1), .second, .val (.int p2), .val (.int p3), .val (.int p4), .val (.ref b1), .unset, .unset, .unset, .unset, .unset] [(.int ((p3.toUInt32 >>> ((8 : Int32) &&& 31).toUInt32).toInt32)), (.int (17 : Int32)), (.ref b1)])) _
    refine XS.i2b X4.here hx rfl (hb hby at_30) rfl ?_
    show Steps p.tables e below (T4.setTop (mkF m 31 #[.val (.long q1), .second, .val (.int p2), .val (.int p3), .val (.int p4), .val (.ref b1), .unset, .unset, .unset, .unset, .unset] [(.int (((p3.toUInt32 >>> ((8 : Int32) &&& 31).toUInt32).toInt32).toInt8.toInt32)), (.int (17 : Int32)), (.ref b1)])) _
    refine st5 _ ?_
    show Steps p.tables e below (T5.setTop (mkF m 32 #[.val (.long q1), .second, .val (.int p2), .val (.int p3), .val (.int p4), .val (.ref b1), .unset, .unset, .unset, .unset, .unset] [])) _
    refine XS.aload X5.here hx rfl (hb hby at_32) rfl rfl ?_
    show Steps p.tables e below (T5.setTop (mkF m 34 #[.val (.long q1), .second, .val (.int p2), .val (.int p3), .val (.int p4), .val (.ref b1), .unset, .unset, .unset, .unset, .unset] [(.ref b1)])) _
    refine XS.sipush X5.here hx rfl (hb hby at_34) ?_
    show Steps p.tables e below (T5.setTop (mkF m 37 #[.val (.long q1), .second, .val (.int p2), .val (.int p3), .val (.int p4), .val (.ref b1), .unset, .unset, .unset, .unset, .unset] [(.int (12303 : Int32)), (.ref b1)])) _
    refine XS.iloadN X5.here hx rfl (hb hby at_37) rfl ?_
    show Steps p.tables e below (T5.setTop (mkF m 38 #[.val (.long q1), .second, .val (.int p2), .val (.int p3), .val (.int p4), .val (.ref b1), .unset, .unset, .unset, .unset, .unset] [(.int p3), (.int (12303 : Int32)), (.ref b1)])) _
    refine XS.bipush X5.here hx rfl (hb hby at_38) ?_
    show Steps p.tables e below (T5.setTop (mkF m 40 #[.val (.long q1), .second, .val (.int p2), .val (.int p3), .val (.int p4), .val (.ref b1), .unset, .unset, .unset, .unset, .unset] [(.int (16 : Int32)), (.int p3), (.int (12303 : Int32)), (.ref b1)])) _
    refine XS.iushr X5.here hx rfl (hb hby at_40) rfl ?_
    show Steps p.tables e below (T5.setTop (mkF m 41 #[.val (.long q1), .second, .val (.int p2), .val (.int p3), .val (.int p4), .val (.ref b1), .unset, .unset, .unset, .unset, .unset] [(.int ((p3.toUInt32 >>> ((16 : Int32) &&& 31).toUInt32).toInt32)), (.int (12303 : Int32)), (.ref b1)])) _
    refine XS.i2b X5.here hx rfl (hb hby at_41) rfl ?_
    show Steps p.tables e below (T5.setTop (mkF m 42 #[.val (.long q1), .second, .val (.int p2), .val (.int p3), .val (.int p4), .val (.ref b1), .unset, .unset, .unset, .unset, .unset] [(.int (((p3.toUInt32 >>> ((16 : Int32) &&& 31).toUInt32).toInt32).toInt8.toInt32)), (.int (12303 : Int32)), (.ref b1)])) _
    refine st6 _ ?_
    show Steps p.tables e below (T6.setTop (mkF m 43 #[.val (.long q1), .second, .val (.int p2), .val (.int p3), .val (.int p4), .val (.ref b1), .unset, .unset, .unset, .unset, .unset] [])) _
    refine XS.iload X6.here hx rfl (hb hby at_43) rfl ?_
    show Steps p.tables e below (T6.setTop (mkF m 45 #[.val (.long q1), .second, .val (.int p2), .val (.int p3), .val (.int p4), .val (.ref b1), .unset, .unset, .unset, .unset, .unset] [(.int p4)])) _
    refine XS.bipush X6.here hx rfl (hb hby at_45) ?_
    show Steps p.tables e below (T6.setTop (mkF m 47 #[.val (.long q1), .second, .val (.int p2), .val (.int p3), .val (.int p4), .val (.ref b1), .unset, .unset, .unset, .unset, .unset] [(.int (63 : Int32)), (.int p4)])) _
    refine XS.iand X6.here hx rfl (hb hby at_47) rfl ?_
    show Steps p.tables e below (T6.setTop (mkF m 48 #[.val (.long q1), .second, .val (.int p2), .val (.int p3), .val (.int p4), .val (.ref b1), .unset, .unset, .unset, .unset, .unset] [(.int (p4 &&& (63 : Int32)))])) _
    refine XS.istore X6.here hx rfl (hb hby at_48) rfl (l' := #[.val (.long q1), .second, .val (.int p2), .val (.int p3), .val (.int p4), .val (.ref b1), .val (.int (p4 &&& (63 : Int32))), .unset, .unset, .unset, .unset]) rfl ?_
    show Steps p.tables e below (T6.setTop (mkF m 50 #[.val (.long q1), .second, .val (.int p2), .val (.int p3), .val (.int p4), .val (.ref b1), .val (.int (p4 &&& (63 : Int32))), .unset, .unset, .unset, .unset] [])) _
    refine XS.iload X6.here hx rfl (hb hby at_50) rfl ?_
    show Steps p.tables e below (T6.setTop (mkF m 52 #[.val (.long q1), .second, .val (.int p2), .val (.int p3), .val (.int p4), .val (.ref b1), .val (.int (p4 &&& (63 : Int32))), .unset, .unset, .unset, .unset] [(.int p4)])) _
    refine XS.bipush X6.here hx rfl (hb hby at_52) ?_
    show Steps p.tables e below (T6.setTop (mkF m 54 #[.val (.long q1), .second, .val (.int p2), .val (.int p3), .val (.int p4), .val (.ref b1), .val (.int (p4 &&& (63 : Int32))), .unset, .unset, .unset, .unset] [(.int (6 : Int32)), (.int p4)])) _
    refine XS.iushr X6.here hx rfl (hb hby at_54) rfl ?_
    show Steps p.tables e below (T6.setTop (mkF m 55 #[.val (.long q1), .second, .val (.int p2), .val (.int p3), .val (.int p4), .val (.ref b1), .val (.int (p4 &&& (63 : Int32))), .unset, .unset, .unset, .unset] [(.int ((p4.toUInt32 >>> ((6 : Int32) &&& 31).toUInt32).toInt32))])) _
    refine XS.bipush X6.here hx rfl (hb hby at_55) ?_
    show Steps p.tables e below (T6.setTop (mkF m 57 #[.val (.long q1), .second, .val (.int p2), .val (.int p3), .val (.int p4), .val (.ref b1), .val (.int (p4 &&& (63 : Int32))), .unset, .unset, .unset, .unset] [(.int (31 : Int32)), (.int ((p4.toUInt32 >>> ((6 : Int32) &&& 31).toUInt32).toInt32))])) _
    refine XS.iand X6.here hx rfl (hb hby at_57) rfl ?_
    show Steps p.tables e below (T6.setTop (mkF m 58 #[.val (.long q1), .second, .val (.int p2), .val (.int p3), .val (.int p4), .val (.ref b1), .val (.int (p4 &&& (63 : Int32))), .unset, .unset, .unset, .unset] [(.int (((p4.toUInt32 >>> ((6 : Int32) &&& 31).toUInt32).toInt32) &&& (31 : Int32)))])) _
    refine XS.istore X6.here hx rfl (hb hby at_58) rfl (l' := #[.val (.long q1), .second, .val (.int p2), .val (.int p3), .val (.int p4), .val (.ref b1), .val (.int (p4 &&& (63 : Int32))), .val (.int (((p4.toUInt32 >>> ((6 : Int32) &&& 31).toUInt32).toInt32) &&& (31 : Int32))), .unset, .unset, .unset]) rfl ?_
    show Steps p.tables e below (T6.setTop (mkF m 60 #[.val (.long q1), .second, .val (.int p2), .val (.int p3), .val (.int p4), .val (.ref b1), .val (.int (p4 &&& (63 : Int32))), .val (.int (((p4.toUInt32 >>> ((6 : Int32) &&& 31).toUInt32).toInt32) &&& (31 : Int32))), .unset, .unset, .unset] [])) _
    refine XS.iload X6.here hx rfl (hb hby at_60) rfl ?_
    show Steps p.tables e below (T6.setTop (mkF m 62 #[.val (.long q1), .second, .val (.int p2), .val (.int p3), .val (.int p4), .val (.ref b1), .val (.int (p4 &&& (63 : Int32))), .val (.int (((p4.toUInt32 >>> ((6 : Int32) &&& 31).toUInt32).toInt32) &&& (31 : Int32))), .unset, .unset, .unset] [(.int p4)])) _
    refine XS.bipush X6.here hx rfl (hb hby at_62) ?_
    show Steps p.tables e below (T6.setTop (mkF m 64 #[.val (.long q1), .second, .val (.int p2), .val (.int p3), .val (.int p4), .val (.ref b1), .val (.int (p4 &&& (63 : Int32))), .val (.int (((p4.toUInt32 >>> ((6 : Int32) &&& 31).toUInt32).toInt32) &&& (31 : Int32))), .unset, .unset, .unset] [(.int (11 : Int32)), (.int p4)])) _
    refine XS.iushr X6.here hx rfl (hb hby at_64) rfl ?_
    show Steps p.tables e below (T6.setTop (mkF m 65 #[.val (.long q1), .second, .val (.int p2), .val (.int p3), .val (.int p4), .val (.ref b1), .val (.int (p4 &&& (63 : Int32))), .val (.int (((p4.toUInt32 >>> ((6 : Int32) &&& 31).toUInt32).toInt32) &&& (31 : Int32))), .unset, .unset, .unset] [(.int ((p4.toUInt32 >>> ((11 : Int32) &&& 31).toUInt32).toInt32))])) _
    refine XS.iconst X6.here hx rfl (hb hby at_65) ?_
    show Steps p.tables e below (T6.setTop (mkF m 66 #[.val (.long q1), .second, .val (.int p2), .val (.int p3), .val (.int p4), .val (.ref b1), .val (.int (p4 &&& (63 : Int32))), .val (.int (((p4.toUInt32 >>> ((6 : Int32) &&& 31).toUInt32).toInt32) &&& (31 : Int32))), .unset, .unset, .unset] [(.int (3 : Int32)), (.int ((p4.toUInt32 >>> ((11 : Int32) &&& 31).toUInt32).toInt32))])) _
    refine XS.iand X6.here hx rfl (hb hby at_66) rfl ?_
    show Steps p.tables e below (T6.setTop (mkF m 67 #[.val (.long q1), .second, .val (.int p2), .val (.int p3), .val (.int p4), .val (.ref b1), .val (.int (p4 &&& (63 : Int32))), .val (.int (((p4.toUInt32 >>> ((6 : Int32) &&& 31).toUInt32).toInt32) &&& (31 : Int32))), .unset, .unset, .unset] [(.int (((p4.toUInt32 >>> ((11 : Int32) &&& 31).toUInt32).toInt32) &&& (3 : Int32)))])) _
    refine XS.istore X6.here hx rfl (hb hby at_67) rfl (l' := #[.val (.long q1), .second, .val (.int p2), .val (.int p3), .val (.int p4), .val (.ref b1), .val (.int (p4 &&& (63 : Int32))), .val (.int (((p4.toUInt32 >>> ((6 : Int32) &&& 31).toUInt32).toInt32) &&& (31 : Int32))), .val (.int (((p4.toUInt32 >>> ((11 : Int32) &&& 31).toUInt32).toInt32) &&& (3 : Int32))), .unset, .unset]) rfl ?_
    show Steps p.tables e below (T6.setTop (mkF m 69 #[.val (.long q1), .second, .val (.int p2), .val (.int p3), .val (.int p4), .val (.ref b1), .val (.int (p4 &&& (63 : Int32))), .val (.int (((p4.toUInt32 >>> ((6 : Int32) &&& 31).toUInt32).toInt32) &&& (31 : Int32))), .val (.int (((p4.toUInt32 >>> ((11 : Int32) &&& 31).toUInt32).toInt32) &&& (3 : Int32))), .unset, .unset] [])) _
    refine XS.sipush X6.here hx rfl (hb hby at_69) ?_
    show Steps p.tables e below (T6.setTop (mkF m 72 #[.val (.long q1), .second, .val (.int p2), .val (.int p3), .val (.int p4), .val (.ref b1), .val (.int (p4 &&& (63 : Int32))), .val (.int (((p4.toUInt32 >>> ((6 : Int32) &&& 31).toUInt32).toInt32) &&& (31 : Int32))), .val (.int (((p4.toUInt32 >>> ((11 : Int32) &&& 31).toUInt32).toInt32) &&& (3 : Int32))), .unset, .unset] [(.int (16384 : Int32))])) _
    refine XS.iload X6.here hx rfl (hb hby at_72) rfl ?_
    show Steps p.tables e below (T6.setTop (mkF m 74 #[.val (.long q1), .second, .val (.int p2), .val (.int p3), .val (.int p4), .val (.ref b1), .val (.int (p4 &&& (63 : Int32))), .val (.int (((p4.toUInt32 >>> ((6 : Int32) &&& 31).toUInt32).toInt32) &&& (31 : Int32))), .val (.int (((p4.toUInt32 >>> ((11 : Int32) &&& 31).toUInt32).toInt32) &&& (3 : Int32))), .unset, .unset] [(.int (p4 &&& (63 : Int32))), (.int (16384 : Int32))])) _
    refine XS.iconst X6.here hx rfl (hb hby at_74) ?_
    show Steps p.tables e below (T6.setTop (mkF m 75 #[.val (.long q1), .second, .val (.int p2), .val (.int p3), .val (.int p4), .val (.ref b1), .val (.int (p4 &&& (63 : Int32))), .val (.int (((p4.toUInt32 >>> ((6 : Int32) &&& 31).toUInt32).toInt32) &&& (31 : Int32))), .val (.int (((p4.toUInt32 >>> ((11 : Int32) &&& 31).toUInt32).toInt32) &&& (3 : Int32))), .unset, .unset] [(.int (1 : Int32)), (.int (p4 &&& (63 : Int32))), (.int (16384 : Int32))])) _
    refine XS.iadd X6.here hx rfl (hb hby at_75) rfl ?_
    show Steps p.tables e below (T6.setTop (mkF m 76 #[.val (.long q1), .second, .val (.int p2), .val (.int p3), .val (.int p4), .val (.ref b1), .val (.int (p4 &&& (63 : Int32))), .val (.int (((p4.toUInt32 >>> ((6 : Int32) &&& 31).toUInt32).toInt32) &&& (31 : Int32))), .val (.int (((p4.toUInt32 >>> ((11 : Int32) &&& 31).toUInt32).toInt32) &&& (3 : Int32))), .unset, .unset] [(.int ((p4 &&& (63 : Int32)) + (1 : Int32))), (.int (16384 : Int32))])) _
    refine XS.isub X6.here hx rfl (hb hby at_76) rfl ?_
    show Steps p.tables e below (T6.setTop (mkF m 77 #[.val (.long q1), .second, .val (.int p2), .val (.int p3), .val (.int p4), .val (.ref b1), .val (.int (p4 &&& (63 : Int32))), .val (.int (((p4.toUInt32 >>> ((6 : Int32) &&& 31).toUInt32).toInt32) &&& (31 : Int32))), .val (.int (((p4.toUInt32 >>> ((11 : Int32) &&& 31).toUInt32).toInt32) &&& (3 : Int32))), .unset, .unset] [(.int ((16384 : Int32) - ((p4 &&& (63 : Int32)) + (1 : Int32))))])) _
    refine XS.iload X6.here hx rfl (hb hby at_77) rfl ?_
    show Steps p.tables e below (T6.setTop (mkF m 79 #[.val (.long q1), .second, .val (.int p2), .val (.int p3), .val (.int p4), .val (.ref b1), .val (.int (p4 &&& (63 : Int32))), .val (.int (((p4.toUInt32 >>> ((6 : Int32) &&& 31).toUInt32).toInt32) &&& (31 : Int32))), .val (.int (((p4.toUInt32 >>> ((11 : Int32) &&& 31).toUInt32).toInt32) &&& (3 : Int32))), .unset, .unset] [(.int (((p4.toUInt32 >>> ((11 : Int32) &&& 31).toUInt32).toInt32) &&& (3 : Int32))), (.int ((16384 : Int32) - ((p4 &&& (63 : Int32)) + (1 : Int32))))])) _
    refine XS.iconst X6.here hx rfl (hb hby at_79) ?_
    show Steps p.tables e below (T6.setTop (mkF m 80 #[.val (.long q1), .second, .val (.int p2), .val (.int p3), .val (.int p4), .val (.ref b1), .val (.int (p4 &&& (63 : Int32))), .val (.int (((p4.toUInt32 >>> ((6 : Int32) &&& 31).toUInt32).toInt32) &&& (31 : Int32))), .val (.int (((p4.toUInt32 >>> ((11 : Int32) &&& 31).toUInt32).toInt32) &&& (3 : Int32))), .unset, .unset] [(.int (1 : Int32)), (.int (((p4.toUInt32 >>> ((11 : Int32) &&& 31).toUInt32).toInt32) &&& (3 : Int32))), (.int ((16384 : Int32) - ((p4 &&& (63 : Int32)) + (1 : Int32))))])) _
    refine XS.iadd X6.here hx rfl (hb hby at_80) rfl ?_
    show Steps p.tables e below (T6.setTop (mkF m 81 #[.val (.long q1), .second, .val (.int p2), .val (.int p3), .val (.int p4), .val (.ref b1), .val (.int (p4 &&& (63 : Int32))), .val (.int (((p4.toUInt32 >>> ((6 : Int32) &&& 31).toUInt32).toInt32) &&& (31 : Int32))), .val (.int (((p4.toUInt32 >>> ((11 : Int32) &&& 31).toUInt32).toInt32) &&& (3 : Int32))), .unset, .unset] [(.int ((((p4.toUInt32 >>> ((11 : Int32) &&& 31).toUInt32).toInt32) &&& (3 : Int32)) + (1 : Int32))), (.int ((16384 : Int32) - ((p4 &&& (63 : Int32)) + (1 : Int32))))])) _
    refine XS.isub X6.here hx rfl (hb hby at_81) rfl ?_
    show Steps p.tables e below (T6.setTop (mkF m 82 #[.val (.long q1), .second, .val (.int p2), .val (.int p3), .val (.int p4), .val (.ref b1), .val (.int (p4 &&& (63 : Int32))), .val (.int (((p4.toUInt32 >>> ((6 : Int32) &&& 31).toUInt32).toInt32) &&& (31 : Int32))), .val (.int (((p4.toUInt32 >>> ((11 : Int32) &&& 31).toUInt32).toInt32) &&& (3 : Int32))), .unset, .unset] [(.int (((16384 : Int32) - ((p4 &&& (63 : Int32)) + (1 : Int32))) - ((((p4.toUInt32 >>> ((11 : Int32) &&& 31).toUInt32).toInt32) &&& (3 : Int32)) + (1 : Int32))))])) _
    refine XS.iconst X6.here hx rfl (hb hby at_82) ?_
    show Steps p.tables e below (T6.setTop (mkF m 83 #[.val (.long q1), .second, .val (.int p2), .val (.int p3), .val (.int p4), .val (.ref b1), .val (.int (p4 &&& (63 : Int32))), .val (.int (((p4.toUInt32 >>> ((6 : Int32) &&& 31).toUInt32).toInt32) &&& (31 : Int32))), .val (.int (((p4.toUInt32 >>> ((11 : Int32) &&& 31).toUInt32).toInt32) &&& (3 : Int32))), .unset, .unset] [(.int (1 : Int32)), (.int (((16384 : Int32) - ((p4 &&& (63 : Int32)) + (1 : Int32))) - ((((p4.toUInt32 >>> ((11 : Int32) &&& 31).toUInt32).toInt32) &&& (3 : Int32)) + (1 : Int32))))])) _
    refine XS.isub X6.here hx rfl (hb hby at_83) rfl ?_
    show Steps p.tables e below (T6.setTop (mkF m 84 #[.val (.long q1), .second, .val (.int p2), .val (.int p3), .val (.int p4), .val (.ref b1), .val (.int (p4 &&& (63 : Int32))), .val (.int (((p4.toUInt32 >>> ((6 : Int32) &&& 31).toUInt32).toInt32) &&& (31 : Int32))), .val (.int (((p4.toUInt32 >>> ((11 : Int32) &&& 31).toUInt32).toInt32) &&& (3 : Int32))), .unset, .unset] [(.int ((((16384 : Int32) - ((p4 &&& (63 : Int32)) + (1 : Int32))) - ((((p4.toUInt32 >>> ((11 : Int32) &&& 31).toUInt32).toInt32) &&& (3 : Int32)) + (1 : Int32))) - (1 : Int32)))])) _
    refine XS.istore X6.here hx rfl (hb hby at_84) rfl (l' := #[.val (.long q1), .second, .val (.int p2), .val (.int p3), .val (.int p4), .val (.ref b1), .val (.int (p4 &&& (63 : Int32))), .val (.int (((p4.toUInt32 >>> ((6 : Int32) &&& 31).toUInt32).toInt32) &&& (31 : Int32))), .val (.int (((p4.toUInt32 >>> ((11 : Int32) &&& 31).toUInt32).toInt32) &&& (3 : Int32))), .val (.int ((((16384 : Int32) - ((p4 &&& (63 : Int32)) + (1 : Int32))) - ((((p4.toUInt32 >>> ((11 : Int32) &&& 31).toUInt32).toInt32) &&& (3 : Int32)) + (1 : Int32))) - (1 : Int32))), .unset]) rfl ?_
    show Steps p.tables e below (T6.setTop (mkF m 86 #[.val (.long q1), .second, .val (.int p2), .val (.int p3), .val (.int p4), .val (.ref b1), .val (.int (p4 &&& (63 : Int32))), .val (.int (((p4.toUInt32 >>> ((6 : Int32) &&& 31).toUInt32).toInt32) &&& (31 : Int32))), .val (.int (((p4.toUInt32 >>> ((11 : Int32) &&& 31).toUInt32).toInt32) &&& (3 : Int32))), .val (.int ((((16384 : Int32) - ((p4 &&& (63 : Int32)) + (1 : Int32))) - ((((p4.toUInt32 >>> ((11 : Int32) &&& 31).toUInt32).toInt32) &&& (3 : Int32)) + (1 : Int32))) - (1 : Int32))), .unset] [])) _
    refine XS.bipush X6.here hx rfl (hb hby at_86) ?_
    show Steps p.tables e below (T6.setTop (mkF m 88 #[.val (.long q1), .second, .val (.int p2), .val (.int p3), .val (.int p4), .val (.ref b1), .val (.int (p4 &&& (63 : Int32))), .val (.int (((p4.toUInt32 >>> ((6 : Int32) &&& 31).toUInt32).toInt32) &&& (31 : Int32))), .val (.int (((p4.toUInt32 >>> ((11 : Int32) &&& 31).toUInt32).toInt32) &&& (3 : Int32))), .val (.int ((((16384 : Int32) - ((p4 &&& (63 : Int32)) + (1 : Int32))) - ((((p4.toUInt32 >>> ((11 : Int32) &&& 31).toUInt32).toInt32) &&& (3 : Int32)) + (1 : Int32))) - (1 : Int32))), .unset] [(.int (20 : Int32))])) _
    refine st7 _ ?_
    show Steps p.tables e below (T7.setTop (mkF m 90 #[.val (.long q1), .second, .val (.int p2), .val (.int p3), .val (.int p4), .val (.ref b1), .val (.int (p4 &&& (63 : Int32))), .val (.int (((p4.toUInt32 >>> ((6 : Int32) &&& 31).toUInt32).toInt32) &&& (31 : Int32))), .val (.int (((p4.toUInt32 >>> ((11 : Int32) &&& 31).toUInt32).toInt32) &&& (3 : Int32))), .val (.int ((((16384 : Int32) - ((p4 &&& (63 : Int32)) + (1 : Int32))) - ((((p4.toUInt32 >>> ((11 : Int32) &&& 31).toUInt32).toInt32) &&& (3 : Int32)) + (1 : Int32))) - (1 : Int32))), .unset] [(.ref b7)])) _
    refine XS.astore X7.here hx rfl (hb hby at_90) rfl rfl (l' := #[.val (.long q1), .second, .val (.int p2), .val (.int p3), .val (.int p4), .val (.ref b1), .val (.int (p4 &&& (63 : Int32))), .val (.int (((p4.toUInt32 >>> ((6 : Int32) &&& 31).toUInt32).toInt32) &&& (31 : Int32))), .val (.int (((p4.toUInt32 >>> ((11 : Int32) &&& 31).toUInt32).toInt32) &&& (3 : Int32))), .val (.int ((((16384 : Int32) - ((p4 &&& (63 : Int32)) + (1 : Int32))) - ((((p4.toUInt32 >>> ((11 : Int32) &&& 31).toUInt32).toInt32) &&& (3 : Int32)) + (1 : Int32))) - (1 : Int32))), .val (.ref b7)]) rfl ?_
    show Steps p.tables e below (T7.setTop (mkF m 92 #[.val (.long q1), .second, .val (.int p2), .val (.int p3), .val (.int p4), .val (.ref b1), .val (.int (p4 &&& (63 : Int32))), .val (.int (((p4.toUInt32 >>> ((6 : Int32) &&& 31).toUInt32).toInt32) &&& (31 : Int32))), .val (.int (((p4.toUInt32 >>> ((11 : Int32) &&& 31).toUInt32).toInt32) &&& (3 : Int32))), .val (.int ((((16384 : Int32) - ((p4 &&& (63 : Int32)) + (1 : Int32))) - ((((p4.toUInt32 >>> ((11 : Int32) &&& 31).toUInt32).toInt32) &&& (3 : Int32)) + (1 : Int32))) - (1 : Int32))), .val (.ref b7)] [])) _
    refine XS.aload X7.here hx rfl (hb hby at_92) rfl rfl ?_
    show Steps p.tables e below (T7.setTop (mkF m 94 #[.val (.long q1), .second, .val (.int p2), .val (.int p3), .val (.int p4), .val (.ref b1), .val (.int (p4 &&& (63 : Int32))), .val (.int (((p4.toUInt32 >>> ((6 : Int32) &&& 31).toUInt32).toInt32) &&& (31 : Int32))), .val (.int (((p4.toUInt32 >>> ((11 : Int32) &&& 31).toUInt32).toInt32) &&& (3 : Int32))), .val (.int ((((16384 : Int32) - ((p4 &&& (63 : Int32)) + (1 : Int32))) - ((((p4.toUInt32 >>> ((11 : Int32) &&& 31).toUInt32).toInt32) &&& (3 : Int32)) + (1 : Int32))) - (1 : Int32))), .val (.ref b7)] [(.ref b7)])) _
    refine XS.iconst X7.here hx rfl (hb hby at_94) ?_
    show Steps p.tables e below (T7.setTop (mkF m 95 #[.val (.long q1), .second, .val (.int p2), .val (.int p3), .val (.int p4), .val (.ref b1), .val (.int (p4 &&& (63 : Int32))), .val (.int (((p4.toUInt32 >>> ((6 : Int32) &&& 31).toUInt32).toInt32) &&& (31 : Int32))), .val (.int (((p4.toUInt32 >>> ((11 : Int32) &&& 31).toUInt32).toInt32) &&& (3 : Int32))), .val (.int ((((16384 : Int32) - ((p4 &&& (63 : Int32)) + (1 : Int32))) - ((((p4.toUInt32 >>> ((11 : Int32) &&& 31).toUInt32).toInt32) &&& (3 : Int32)) + (1 : Int32))) - (1 : Int32))), .val (.ref b7)] [(.int (1 : Int32)), (.ref b7)])) _
    refine XS.iloadN X7.here hx rfl (hb hby at_95) rfl ?_
    show Steps p.tables e below (T7.setTop (mkF m 96 #[.val (.long q1), .second, .val (.int p2), .val (.int p3), .val (.int p4), .val (.ref b1), .val (.int (p4 &&& (63 : Int32))), .val (.int (((p4.toUInt32 >>> ((6 : Int32) &&& 31).toUInt32).toInt32) &&& (31 : Int32))), .val (.int (((p4.toUInt32 >>> ((11 : Int32) &&& 31).toUInt32).toInt32) &&& (3 : Int32))), .val (.int ((((16384 : Int32) - ((p4 &&& (63 : Int32)) + (1 : Int32))) - ((((p4.toUInt32 >>> ((11 : Int32) &&& 31).toUInt32).toInt32) &&& (3 : Int32)) + (1 : Int32))) - (1 : Int32))), .val (.ref b7)] [(.int p2), (.int (1 : Int32)), (.ref b7)])) _
    refine XS.lloadN X7.here hx rfl (hb hby at_96) rfl ?_
    show Steps p.tables e below (T7.setTop (mkF m 97 #[.val (.long q1), .second, .val (.int p2), .val (.int p3), .val (.int p4), .val (.ref b1), .val (.int (p4 &&& (63 : Int32))), .val (.int (((p4.toUInt32 >>> ((6 : Int32) &&& 31).toUInt32).toInt32) &&& (31 : Int32))), .val (.int (((p4.toUInt32 >>> ((11 : Int32) &&& 31).toUInt32).toInt32) &&& (3 : Int32))), .val (.int ((((16384 : Int32) - ((p4 &&& (63 : Int32)) + (1 : Int32))) - ((((p4.toUInt32 >>> ((11 : Int32) &&& 31).toUInt32).toInt32) &&& (3 : Int32)) + (1 : Int32))) - (1 : Int32))), .val (.ref b7)] [(.long q1), (.int p2), (.int (1 : Int32)), (.ref b7)])) _
    refine st9 _ ?_
    show Steps p.tables e below (T9.setTop (mkF m 100 #[.val (.long q1), .second, .val (.int p2), .val (.int p3), .val (.int p4), .val (.ref b1), .val (.int (p4 &&& (63 : Int32))), .val (.int (((p4.toUInt32 >>> ((6 : Int32) &&& 31).toUInt32).toInt32) &&& (31 : Int32))), .val (.int (((p4.toUInt32 >>> ((11 : Int32) &&& 31).toUInt32).toInt32) &&& (3 : Int32))), .val (.int ((((16384 : Int32) - ((p4 &&& (63 : Int32)) + (1 : Int32))) - ((((p4.toUInt32 >>> ((11 : Int32) &&& 31).toUInt32).toInt32) &&& (3 : Int32)) + (1 : Int32))) - (1 : Int32))), .val (.ref b7)] [])) _
    refine XS.aload X9.here hx rfl (hb hby at_100) rfl rfl ?_
    show Steps p.tables e below (T9.setTop (mkF m 102 #[.val (.long q1), .second, .val (.int p2), .val (.int p3), .val (.int p4), .val (.ref b1), .val (.int (p4 &&& (63 : Int32))), .val (.int (((p4.toUInt32 >>> ((6 : Int32) &&& 31).toUInt32).toInt32) &&& (31 : Int32))), .val (.int (((p4.toUInt32 >>> ((11 : Int32) &&& 31).toUInt32).toInt32) &&& (3 : Int32))), .val (.int ((((16384 : Int32) - ((p4 &&& (63 : Int32)) + (1 : Int32))) - ((((p4.toUInt32 >>> ((11 : Int32) &&& 31).toUInt32).toInt32) &&& (3 : Int32)) + (1 : Int32))) - (1 : Int32))), .val (.ref b7)] [(.ref b7)])) _
    refine XS.bipush X9.here hx rfl (hb hby at_102) ?_
    show Steps p.tables e below (T9.setTop (mkF m 104 #[.val (.long q1), .second, .val (.int p2), .val (.int p3), .val (.int p4), .val (.ref b1), .val (.int (p4 &&& (63 : Int32))), .val (.int (((p4.toUInt32 >>> ((6 : Int32) &&& 31).toUInt32).toInt32) &&& (31 : Int32))), .val (.int (((p4.toUInt32 >>> ((11 : Int32) &&& 31).toUInt32).toInt32) &&& (3 : Int32))), .val (.int ((((16384 : Int32) - ((p4 &&& (63 : Int32)) + (1 : Int32))) - ((((p4.toUInt32 >>> ((11 : Int32) &&& 31).toUInt32).toInt32) &&& (3 : Int32)) + (1 : Int32))) - (1 : Int32))), .val (.ref b7)] [(.int (16 : Int32)), (.ref b7)])) _
    refine XS.iload X9.here hx rfl (hb hby at_104) rfl ?_
    show Steps p.tables e below (T9.setTop (mkF m 106 #[.val (.long q1), .second, .val (.int p2), .val (.int p3), .val (.int p4), .val (.ref b1), .val (.int (p4 &&& (63 : Int32))), .val (.int (((p4.toUInt32 >>> ((6 : Int32) &&& 31).toUInt32).toInt32) &&& (31 : Int32))), .val (.int (((p4.toUInt32 >>> ((11 : Int32) &&& 31).toUInt32).toInt32) &&& (3 : Int32))), .val (.int ((((16384 : Int32) - ((p4 &&& (63 : Int32)) + (1 : Int32))) - ((((p4.toUInt32 >>> ((11 : Int32) &&& 31).toUInt32).toInt32) &&& (3 : Int32)) + (1 : Int32))) - (1 : Int32))), .val (.ref b7)] [(.int (p4 &&& (63 : Int32))), (.int (16 : Int32)), (.ref b7)])) _
    refine XS.i2b X9.here hx rfl (hb hby at_106) rfl ?_
    show Steps p.tables e below (T9.setTop (mkF m 107 #[.val (.long q1), .second, .val (.int p2), .val (.int p3), .val (.int p4), .val (.ref b1), .val (.int (p4 &&& (63 : Int32))), .val (.int (((p4.toUInt32 >>> ((6 : Int32) &&& 31).toUInt32).toInt32) &&& (31 : Int32))), .val (.int (((p4.toUInt32 >>> ((11 : Int32) &&& 31).toUInt32).toInt32) &&& (3 : Int32))), .val (.int ((((16384 : Int32) - ((p4 &&& (63 : Int32)) + (1 : Int32))) - ((((p4.toUInt32 >>> ((11 : Int32) &&& 31).toUInt32).toInt32) &&& (3 : Int32)) + (1 : Int32))) - (1 : Int32))), .val (.ref b7)] [(.int ((p4 &&& (63 : Int32)).toInt8.toInt32)), (.int (16 : Int32)), (.ref b7)])) _
    refine st11 _ ?_
    show Steps p.tables e below (T11.setTop (mkF m 108 #[.val (.long q1), .second, .val (.int p2), .val (.int p3), .val (.int p4), .val (.ref b1), .val (.int (p4 &&& (63 : Int32))), .val (.int (((p4.toUInt32 >>> ((6 : Int32) &&& 31).toUInt32).toInt32) &&& (31 : Int32))), .val (.int (((p4.toUInt32 >>> ((11 : Int32) &&& 31).toUInt32).toInt32) &&& (3 : Int32))), .val (.int ((((16384 : Int32) - ((p4 &&& (63 : Int32)) + (1 : Int32))) - ((((p4.toUInt32 >>> ((11 : Int32) &&& 31).toUInt32).toInt32) &&& (3 : Int32)) + (1 : Int32))) - (1 : Int32))), .val (.ref b7)] [])) _
    refine XS.aload X11.here hx rfl (hb hby at_108) rfl rfl ?_
    show Steps p.tables e below (T11.setTop (mkF m 110 #[.val (.long q1), .second, .val (.int p2), .val (.int p3), .val (.int p4), .val (.ref b1), .val (.int (p4 &&& (63 : Int32))), .val (.int (((p4.toUInt32 >>> ((6 : Int32) &&& 31).toUInt32).toInt32) &&& (31 : Int32))), .val (.int (((p4.toUInt32 >>> ((11 : Int32) &&& 31).toUInt32).toInt32) &&& (3 : Int32))), .val (.int ((((16384 : Int32) - ((p4 &&& (63 : Int32)) + (1 : Int32))) - ((((p4.toUInt32 >>> ((11 : Int32) &&& 31).toUInt32).toInt32) &&& (3 : Int32)) + (1 : Int32))) - (1 : Int32))), .val (.ref b7)] [(.ref b7)])) _
    refine XS.bipush X11.here hx rfl (hb hby at_110) ?_
    show Steps p.tables e below (T11.setTop (mkF m 112 #[.val (.long q1), .second, .val (.int p2), .val (.int p3), .val (.int p4), .val (.ref b1), .val (.int (p4 &&& (63 : Int32))), .val (.int (((p4.toUInt32 >>> ((6 : Int32) &&& 31).toUInt32).toInt32) &&& (31 : Int32))), .val (.int (((p4.toUInt32 >>> ((11 : Int32) &&& 31).toUInt32).toInt32) &&& (3 : Int32))), .val (.int ((((16384 : Int32) - ((p4 &&& (63 : Int32)) + (1 : Int32))) - ((((p4.toUInt32 >>> ((11 : Int32) &&& 31).toUInt32).toInt32) &&& (3 : Int32)) + (1 : Int32))) - (1 : Int32))), .val (.ref b7)] [(.int (17 : Int32)), (.ref b7)])) _
    refine XS.sipush X11.here hx rfl (hb hby at_112) ?_
    show Steps p.tables e below (T11.setTop (mkF m 115 #[.val (.long q1), .second, .val (.int p2), .val (.int p3), .val (.int p4), .val (.ref b1), .val (.int (p4 &&& (63 : Int32))), .val (.int (((p4.toUInt32 >>> ((6 : Int32) &&& 31).toUInt32).toInt32) &&& (31 : Int32))), .val (.int (((p4.toUInt32 >>> ((11 : Int32) &&& 31).toUInt32).toInt32) &&& (3 : Int32))), .val (.int ((((16384 : Int32) - ((p4 &&& (63 : Int32)) + (1 : Int32))) - ((((p4.toUInt32 >>> ((11 : Int32) &&& 31).toUInt32).toInt32) &&& (3 : Int32)) + (1 : Int32))) - (1 : Int32))), .val (.ref b7)] [(.int (128 : Int32)), (.int (17 : Int32)), (.ref b7)])) _
    refine XS.iload X11.here hx rfl (hb hby at_115) rfl ?_
    show Steps p.tables e below (T11.setTop (mkF m 117 #[.val (.long q1), .second, .val (.int p2), .val (.int p3), .val (.int p4), .val (.ref b1), .val (.int (p4 &&& (63 : Int32))), .val (.int (((p4.toUInt32 >>> ((6 : Int32) &&& 31).toUInt32).toInt32) &&& (31 : Int32))), .val (.int (((p4.toUInt32 >>> ((11 : Int32) &&& 31).toUInt32).toInt32) &&& (3 : Int32))), .val (.int ((((16384 : Int32) - ((p4 &&& (63 : Int32)) + (1 : Int32))) - ((((p4.toUInt32 >>> ((11 : Int32) &&& 31).toUInt32).toInt32) &&& (3 : Int32)) + (1 : Int32))) - (1 : Int32))), .val (.ref b7)] [(.int (((p4.toUInt32 >>> ((6 : Int32) &&& 31).toUInt32).toInt32) &&& (31 : Int32))), (.int (128 : Int32)), (.int (17 : Int32)), (.ref b7)])) _
    refine XS.iconst X11.here hx rfl (hb hby at_117) ?_
    show Steps p.tables e below (T11.setTop (mkF m 118 #[.val (.long q1), .second, .val (.int p2), .val (.int p3), .val (.int p4), .val (.ref b1), .val (.int (p4 &&& (63 : Int32))), .val (.int (((p4.toUInt32 >>> ((6 : Int32) &&& 31).toUInt32).toInt32) &&& (31 : Int32))), .val (.int (((p4.toUInt32 >>> ((11 : Int32) &&& 31).toUInt32).toInt32) &&& (3 : Int32))), .val (.int ((((16384 : Int32) - ((p4 &&& (63 : Int32)) + (1 : Int32))) - ((((p4.toUInt32 >>> ((11 : Int32) &&& 31).toUInt32).toInt32) &&& (3 : Int32)) + (1 : Int32))) - (1 : Int32))), .val (.ref b7)] [(.int (2 : Int32)), (.int (((p4.toUInt32 >>> ((6 : Int32) &&& 31).toUInt32).toInt32) &&& (31 : Int32))), (.int (128 : Int32)), (.int (17 : Int32)), (.ref b7)])) _
    refine XS.ishl X11.here hx rfl (hb hby at_118) rfl ?_
    show Steps p.tables e below (T11.setTop (mkF m 119 #[.val (.long q1), .second, .val (.int p2), .val (.int p3), .val (.int p4), .val (.ref b1), .val (.int (p4 &&& (63 : Int32))), .val (.int (((p4.toUInt32 >>> ((6 : Int32) &&& 31).toUInt32).toInt32) &&& (31 : Int32))), .val (.int (((p4.toUInt32 >>> ((11 : Int32) &&& 31).toUInt32).toInt32) &&& (3 : Int32))), .val (.int ((((16384 : Int32) - ((p4 &&& (63 : Int32)) + (1 : Int32))) - ((((p4.toUInt32 >>> ((11 : Int32) &&& 31).toUInt32).toInt32) &&& (3 : Int32)) + (1 : Int32))) - (1 : Int32))), .val (.ref b7)] [(.int ((((p4.toUInt32 >>> ((6 : Int32) &&& 31).toUInt32).toInt32) &&& (31 : Int32)) <<< ((2 : Int32) &&& 31))), (.int (128 : Int32)), (.int (17 : Int32)), (.ref b7)])) _
    refine XS.ior X11.here hx rfl (hb hby at_119) rfl ?_
    show Steps p.tables e below (T11.setTop (mkF m 120 #[.val (.long q1), .second, .val (.int p2), .val (.int p3), .val (.int p4), .val (.ref b1), .val (.int (p4 &&& (63 : Int32))), .val (.int (((p4.toUInt32 >>> ((6 : Int32) &&& 31).toUInt32).toInt32) &&& (31 : Int32))), .val (.int (((p4.toUInt32 >>> ((11 : Int32) &&& 31).toUInt32).toInt32) &&& (3 : Int32))), .val (.int ((((16384 : Int32) - ((p4 &&& (63 : Int32)) + (1 : Int32))) - ((((p4.toUInt32 >>> ((11 : Int32) &&& 31).toUInt32).toInt32) &&& (3 : Int32)) + (1 : Int32))) - (1 : Int32))), .val (.ref b7)] [(.int ((128 : Int32) ||| ((((p4.toUInt32 >>> ((6 : Int32) &&& 31).toUInt32).toInt32) &&& (31 : Int32)) <<< ((2 : Int32) &&& 31)))), (.int (17 : Int32)), (.ref b7)])) _
    refine XS.iload X11.here hx rfl (hb hby at_120) rfl ?_
    show Steps p.tables e below (T11.setTop (mkF m 122 #[.val (.long q1), .second, .val (.int p2), .val (.int p3), .val (.int p4), .val (.ref b1), .val (.int (p4 &&& (63 : Int32))), .val (.int (((p4.toUInt32 >>> ((6 : Int32) &&& 31).toUInt32).toInt32) &&& (31 : Int32))), .val (.int (((p4.toUInt32 >>> ((11 : Int32) &&& 31).toUInt32).toInt32) &&& (3 : Int32))), .val (.int ((((16384 : Int32) - ((p4 &&& (63 : Int32)) + (1 : Int32))) - ((((p4.toUInt32 >>> ((11 : Int32) &&& 31).toUInt32).toInt32) &&& (3 : Int32)) + (1 : Int32))) - (1 : Int32))), .val (.ref b7)] [(.int (((p4.toUInt32 >>> ((11 : Int32) &&& 31).toUInt32).toInt32) &&& (3 : Int32))), (.int ((128 : Int32) ||| ((((p4.toUInt32 >>> ((6 : Int32) &&& 31).toUInt32).toInt32) &&& (31 : Int32)) <<< ((2 : Int32) &&& 31)))), (.int (17 : Int32)), (.ref b7)])) _
    refine XS.ior X11.here hx rfl (hb hby at_122) rfl ?_
    show Steps p.tables e below (T11.setTop (mkF m 123 #[.val (.long q1), .second, .val (.int p2), .val (.int p3), .val (.int p4), .val (.ref b1), .val (.int (p4 &&& (63 : Int32))), .val (.int (((p4.toUInt32 >>> ((6 : Int32) &&& 31).toUInt32).toInt32) &&& (31 : Int32))), .val (.int (((p4.toUInt32 >>> ((11 : Int32) &&& 31).toUInt32).toInt32) &&& (3 : Int32))), .val (.int ((((16384 : Int32) - ((p4 &&& (63 : Int32)) + (1 : Int32))) - ((((p4.toUInt32 >>> ((11 : Int32) &&& 31).toUInt32).toInt32) &&& (3 : Int32)) + (1 : Int32))) - (1 : Int32))), .val (.ref b7)] [(.int (((128 : Int32) ||| ((((p4.toUInt32 >>> ((6 : Int32) &&& 31).toUInt32).toInt32) &&& (31 : Int32)) <<< ((2 : Int32) &&& 31))) ||| (((p4.toUInt32 >>> ((11 : Int32) &&& 31).toUInt32).toInt32) &&& (3 : Int32)))), (.int (17 : Int32)), (.ref b7)])) _
    refine XS.i2b X11.here hx rfl (hb hby at_123) rfl ?_
    show Steps p.tables e below (T11.setTop (mkF m 124 #[.val (.long q1), .second, .val (.int p2), .val (.int p3), .val (.int p4), .val (.ref b1), .val (.int (p4 &&& (63 : Int32))), .val (.int (((p4.toUInt32 >>> ((6 : Int32) &&& 31).toUInt32).toInt32) &&& (31 : Int32))), .val (.int (((p4.toUInt32 >>> ((11 : Int32) &&& 31).toUInt32).toInt32) &&& (3 : Int32))), .val (.int ((((16384 : Int32) - ((p4 &&& (63 : Int32)) + (1 : Int32))) - ((((p4.toUInt32 >>> ((11 : Int32) &&& 31).toUInt32).toInt32) &&& (3 : Int32)) + (1 : Int32))) - (1 : Int32))), .val (.ref b7)] [(.int ((((128 : Int32) ||| ((((p4.toUInt32 >>> ((6 : Int32) &&& 31).toUInt32).toInt32) &&& (31 : Int32)) <<< ((2 : Int32) &&& 31))) ||| (((p4.toUInt32 >>> ((11 : Int32) &&& 31).toUInt32).toInt32) &&& (3 : Int32))).toInt8.toInt32)), (.int (17 : Int32)), (.ref b7)])) _
    refine st12 _ ?_
    show Steps p.tables e below (T12.setTop (mkF m 125 #[.val (.long q1), .second, .val (.int p2), .val (.int p3), .val (.int p4), .val (.ref b1), .val (.int (p4 &&& (63 : Int32))), .val (.int (((p4.toUInt32 >>> ((6 : Int32) &&& 31).toUInt32).toInt32) &&& (31 : Int32))), .val (.int (((p4.toUInt32 >>> ((11 : Int32) &&& 31).toUInt32).toInt32) &&& (3 : Int32))), .val (.int ((((16384 : Int32) - ((p4 &&& (63 : Int32)) + (1 : Int32))) - ((((p4.toUInt32 >>> ((11 : Int32) &&& 31).toUInt32).toInt32) &&& (3 : Int32)) + (1 : Int32))) - (1 : Int32))), .val (.ref b7)] [])) _
    refine XS.aload X12.here hx rfl (hb hby at_125) rfl rfl ?_
    show Steps p.tables e below (T12.setTop (mkF m 127 #[.val (.long q1), .second, .val (.int p2), .val (.int p3), .val (.int p4), .val (.ref b1), .val (.int (p4 &&& (63 : Int32))), .val (.int (((p4.toUInt32 >>> ((6 : Int32) &&& 31).toUInt32).toInt32) &&& (31 : Int32))), .val (.int (((p4.toUInt32 >>> ((11 : Int32) &&& 31).toUInt32).toInt32) &&& (3 : Int32))), .val (.int ((((16384 : Int32) - ((p4 &&& (63 : Int32)) + (1 : Int32))) - ((((p4.toUInt32 >>> ((11 : Int32) &&& 31).toUInt32).toInt32) &&& (3 : Int32)) + (1 : Int32))) - (1 : Int32))), .val (.ref b7)] [(.ref b7)])) _
    refine XS.bipush X12.here hx rfl (hb hby at_127) ?_
    show Steps p.tables e below (T12.setTop (mkF m 129 #[.val (.long q1), .second, .val (.int p2), .val (.int p3), .val (.int p4), .val (.ref b1), .val (.int (p4 &&& (63 : Int32))), .val (.int (((p4.toUInt32 >>> ((6 : Int32) &&& 31).toUInt32).toInt32) &&& (31 : Int32))), .val (.int (((p4.toUInt32 >>> ((11 : Int32) &&& 31).toUInt32).toInt32) &&& (3 : Int32))), .val (.int ((((16384 : Int32) - ((p4 &&& (63 : Int32)) + (1 : Int32))) - ((((p4.toUInt32 >>> ((11 : Int32) &&& 31).toUInt32).toInt32) &&& (3 : Int32)) + (1 : Int32))) - (1 : Int32))), .val (.ref b7)] [(.int (18 : Int32)), (.ref b7)])) _
    refine XS.bipush X12.here hx rfl (hb hby at_129) ?_
    show Steps p.tables e below (T12.setTop (mkF m 131 #[.val (.long q1), .second, .val (.int p2), .val (.int p3), .val (.int p4), .val (.ref b1), .val (.int (p4 &&& (63 : Int32))), .val (.int (((p4.toUInt32 >>> ((6 : Int32) &&& 31).toUInt32).toInt32) &&& (31 : Int32))), .val (.int (((p4.toUInt32 >>> ((11 : Int32) &&& 31).toUInt32).toInt32) &&& (3 : Int32))), .val (.int ((((16384 : Int32) - ((p4 &&& (63 : Int32)) + (1 : Int32))) - ((((p4.toUInt32 >>> ((11 : Int32) &&& 31).toUInt32).toInt32) &&& (3 : Int32)) + (1 : Int32))) - (1 : Int32))), .val (.ref b7)] [(.int (64 : Int32)), (.int (18 : Int32)), (.ref b7)])) _
    refine XS.iload X12.here hx rfl (hb hby at_131) rfl ?_
    show Steps p.tables e below (T12.setTop (mkF m 133 #[.val (.long q1), .second, .val (.int p2), .val (.int p3), .val (.int p4), .val (.ref b1), .val (.int (p4 &&& (63 : Int32))), .val (.int (((p4.toUInt32 >>> ((6 : Int32) &&& 31).toUInt32).toInt32) &&& (31 : Int32))), .val (.int (((p4.toUInt32 >>> ((11 : Int32) &&& 31).toUInt32).toInt32) &&& (3 : Int32))), .val (.int ((((16384 : Int32) - ((p4 &&& (63 : Int32)) + (1 : Int32))) - ((((p4.toUInt32 >>> ((11 : Int32) &&& 31).toUInt32).toInt32) &&& (3 : Int32)) + (1 : Int32))) - (1 : Int32))), .val (.ref b7)] [(.int ((((16384 : Int32) - ((p4 &&& (63 : Int32)) + (1 : Int32))) - ((((p4.toUInt32 >>> ((11 : Int32) &&& 31).toUInt32).toInt32) &&& (3 : Int32)) + (1 : Int32))) - (1 : Int32))), (.int (64 : Int32)), (.int (18 : Int32)), (.ref b7)])) _
    refine XS.bipush X12.here hx rfl (hb hby at_133) ?_
    show Steps p.tables e below (T12.setTop (mkF m 135 #[.val (.long q1), .second, .val (.int p2), .val (.int p3), .val (.int p4), .val (.ref b1), .val (.int (p4 &&& (63 : Int32))), .val (.int (((p4.toUInt32 >>> ((6 : Int32) &&& 31).toUInt32).toInt32) &&& (31 : Int32))), .val (.int (((p4.toUInt32 >>> ((11 : Int32) &&& 31).toUInt32).toInt32) &&& (3 : Int32))), .val (.int ((((16384 : Int32) - ((p4 &&& (63 : Int32)) + (1 : Int32))) - ((((p4.toUInt32 >>> ((11 : Int32) &&& 31).toUInt32).toInt32) &&& (3 : Int32)) + (1 : Int32))) - (1 : Int32))), .val (.ref b7)] [(.int (8 : Int32)), (.int ((((16384 : Int32) - ((p4 &&& (63 : Int32)) + (1 : Int32))) - ((((p4.toUInt32 >>> ((11 : Int32) &&& 31).toUInt32).toInt32) &&& (3 : Int32)) + (1 : Int32))) - (1 : Int32))), (.int (64 : Int32)), (.int (18 : Int32)), (.ref b7)])) _
    refine XS.iushr X12.here hx rfl (hb hby at_135) rfl ?_
    show Steps p.tables e below (T12.setTop (mkF m 136 #[.val (.long q1), .second, .val (.int p2), .val (.int p3), .val (.int p4), .val (.ref b1), .val (.int (p4 &&& (63 : Int32))), .val (.int (((p4.toUInt32 >>> ((6 : Int32) &&& 31).toUInt32).toInt32) &&& (31 : Int32))), .val (.int (((p4.toUInt32 >>> ((11 : Int32) &&& 31).toUInt32).toInt32) &&& (3 : Int32))), .val (.int ((((16384 : Int32) - ((p4 &&& (63 : Int32)) + (1 : Int32))) - ((((p4.toUInt32 >>> ((11 : Int32) &&& 31).toUInt32).toInt32) &&& (3 : Int32)) + (1 : Int32))) - (1 : Int32))), .val (.ref b7)] [(.int ((((((16384 : Int32) - ((p4 &&& (63 : Int32)) + (1 : Int32))) - ((((p4.toUInt32 >>> ((11 : Int32) &&& 31).toUInt32).toInt32) &&& (3 : Int32)) + (1 : Int32))) - (1 : Int32)).toUInt32 >>> ((8 : Int32) &&& 31).toUInt32).toInt32)), (.int (64 : Int32)), (.int (18 : Int32)), (.ref b7)])) _
    refine XS.ior X12.here hx rfl (hb hby at_136) rfl ?_
    show Steps p.tables e below (T12.setTop (mkF m 137 #[.val (.long q1), .second, .val (.int p2), .val (.int p3), .val (.int p4), .val (.ref b1), .val (.int (p4 &&& (63 : Int32))), .val (.int (((p4.toUInt32 >>> ((6 : Int32) &&& 31).toUInt32).toInt32) &&& (31 : Int32))), .val (.int (((p4.toUInt32 >>> ((11 : Int32) &&& 31).toUInt32).toInt32) &&& (3 : Int32))), .val (.int ((((16384 : Int32) - ((p4 &&& (63 : Int32)) + (1 : Int32))) - ((((p4.toUInt32 >>> ((11 : Int32) &&& 31).toUInt32).toInt32) &&& (3 : Int32)) + (1 : Int32))) - (1 : Int32))), .val (.ref b7)] [(.int ((64 : Int32) ||| ((((((16384 : Int32) - ((p4 &&& (63 : Int32)) + (1 : Int32))) - ((((p4.toUInt32 >>> ((11 : Int32) &&& 31).toUInt32).toInt32) &&& (3 : Int32)) + (1 : Int32))) - (1 : Int32)).toUInt32 >>> ((8 : Int32) &&& 31).toUInt32).toInt32))), (.int (18 : Int32)), (.ref b7)])) _
    refine XS.i2b X12.here hx rfl (hb hby at_137) rfl ?_
    show Steps p.tables e below (T12.setTop (mkF m 138 #[.val (.long q1), .second, .val (.int p2), .val (.int p3), .val (.int p4), .val (.ref b1), .val (.int (p4 &&& (63 : Int32))), .val (.int (((p4.toUInt32 >>> ((6 : Int32) &&& 31).toUInt32).toInt32) &&& (31 : Int32))), .val (.int (((p4.toUInt32 >>> ((11 : Int32) &&& 31).toUInt32).toInt32) &&& (3 : Int32))), .val (.int ((((16384 : Int32) - ((p4 &&& (63 : Int32)) + (1 : Int32))) - ((((p4.toUInt32 >>> ((11 : Int32) &&& 31).toUInt32).toInt32) &&& (3 : Int32)) + (1 : Int32))) - (1 : Int32))), .val (.ref b7)] [(.int (((64 : Int32) ||| ((((((16384 : Int32) - ((p4 &&& (63 : Int32)) + (1 : Int32))) - ((((p4.toUInt32 >>> ((11 : Int32) &&& 31).toUInt32).toInt32) &&& (3 : Int32)) + (1 : Int32))) - (1 : Int32)).toUInt32 >>> ((8 : Int32) &&& 31).toUInt32).toInt32)).toInt8.toInt32)), (.int (18 : Int32)), (.ref b7)])) _
    refine st13 _ ?_
    show Steps p.tables e below (T13.setTop (mkF m 139 #[.val (.long q1), .second, .val (.int p2), .val (.int p3), .val (.int p4), .val (.ref b1), .val (.int (p4 &&& (63 : Int32))), .val (.int (((p4.toUInt32 >>> ((6 : Int32) &&& 31).toUInt32).toInt32) &&& (31 : Int32))), .val (.int (((p4.toUInt32 >>> ((11 : Int32) &&& 31).toUInt32).toInt32) &&& (3 : Int32))), .val (.int ((((16384 : Int32) - ((p4 &&& (63 : Int32)) + (1 : Int32))) - ((((p4.toUInt32 >>> ((11 : Int32) &&& 31).toUInt32).toInt32) &&& (3 : Int32)) + (1 : Int32))) - (1 : Int32))), .val (.ref b7)] [])) _
    refine XS.aload X13.here hx rfl (hb hby at_139) rfl rfl ?_
    show Steps p.tables e below (T13.setTop (mkF m 141 #[.val (.long q1), .second, .val (.int p2), .val (.int p3), .val (.int p4), .val (.ref b1), .val (.int (p4 &&& (63 : Int32))), .val (.int (((p4.toUInt32 >>> ((6 : Int32) &&& 31).toUInt32).toInt32) &&& (31 : Int32))), .val (.int (((p4.toUInt32 >>> ((11 : Int32) &&& 31).toUInt32).toInt32) &&& (3 : Int32))), .val (.int ((((16384 : Int32) - ((p4 &&& (63 : Int32)) + (1 : Int32))) - ((((p4.toUInt32 >>> ((11 : Int32) &&& 31).toUInt32).toInt32) &&& (3 : Int32)) + (1 : Int32))) - (1 : Int32))), .val (.ref b7)] [(.ref b7)])) _
    refine XS.bipush X13.here hx rfl (hb hby at_141) ?_
    show Steps p.tables e below (T13.setTop (mkF m 143 #[.val (.long q1), .second, .val (.int p2), .val (.int p3), .val (.int p4), .val (.ref b1), .val (.int (p4 &&& (63 : Int32))), .val (.int (((p4.toUInt32 >>> ((6 : Int32) &&& 31).toUInt32).toInt32) &&& (31 : Int32))), .val (.int (((p4.toUInt32 >>> ((11 : Int32) &&& 31).toUInt32).toInt32) &&& (3 : Int32))), .val (.int ((((16384 : Int32) - ((p4 &&& (63 : Int32)) + (1 : Int32))) - ((((p4.toUInt32 >>> ((11 : Int32) &&& 31).toUInt32).toInt32) &&& (3 : Int32)) + (1 : Int32))) - (1 : Int32))), .val (.ref b7)] [(.int (19 : Int32)), (.ref b7)])) _
    refine XS.iload X13.here hx rfl (hb hby at_143) rfl ?_
    show Steps p.tables e below (T13.setTop (mkF m 145 #[.val (.long q1), .second, .val (.int p2), .val (.int p3), .val (.int p4), .val (.ref b1), .val (.int (p4 &&& (63 : Int32))), .val (.int (((p4.toUInt32 >>> ((6 : Int32) &&& 31).toUInt32).toInt32) &&& (31 : Int32))), .val (.int (((p4.toUInt32 >>> ((11 : Int32) &&& 31).toUInt32).toInt32) &&& (3 : Int32))), .val (.int ((((16384 : Int32) - ((p4 &&& (63 : Int32)) + (1 : Int32))) - ((((p4.toUInt32 >>> ((11 : Int32) &&& 31).toUInt32).toInt32) &&& (3 : Int32)) + (1 : Int32))) - (1 : Int32))), .val (.ref b7)] [(.int ((((16384 : Int32) - ((p4 &&& (63 : Int32)) + (1 : Int32))) - ((((p4.toUInt32 >>> ((11 : Int32) &&& 31).toUInt32).toInt32) &&& (3 : Int32)) + (1 : Int32))) - (1 : Int32))), (.int (19 : Int32)), (.ref b7)])) _
    refine XS.i2b X13.here hx rfl (hb hby at_145) rfl ?_
    show Steps p.tables e below (T13.setTop (mkF m 146 #[.val (.long q1), .second, .val (.int p2), .val (.int p3), .val (.int p4), .val (.ref b1), .val (.int (p4 &&& (63 : Int32))), .val (.int (((p4.toUInt32 >>> ((6 : Int32) &&& 31).toUInt32).toInt32) &&& (31 : Int32))), .val (.int (((p4.toUInt32 >>> ((11 : Int32) &&& 31).toUInt32).toInt32) &&& (3 : Int32))), .val (.int ((((16384 : Int32) - ((p4 &&& (63 : Int32)) + (1 : Int32))) - ((((p4.toUInt32 >>> ((11 : Int32) &&& 31).toUInt32).toInt32) &&& (3 : Int32)) + (1 : Int32))) - (1 : Int32))), .val (.ref b7)] [(.int (((((16384 : Int32) - ((p4 &&& (63 : Int32)) + (1 : Int32))) - ((((p4.toUInt32 >>> ((11 : Int32) &&& 31).toUInt32).toInt32) &&& (3 : Int32)) + (1 : Int32))) - (1 : Int32)).toInt8.toInt32)), (.int (19 : Int32)), (.ref b7)])) _
    refine st14 _ ?_
    show Steps p.tables e below (T14.setTop (mkF m 147 #[.val (.long q1), .second, .val (.int p2), .val (.int p3), .val (.int p4), .val (.ref b1), .val (.int (p4 &&& (63 : Int32))), .val (.int (((p4.toUInt32 >>> ((6 : Int32) &&& 31).toUInt32).toInt32) &&& (31 : Int32))), .val (.int (((p4.toUInt32 >>> ((11 : Int32) &&& 31).toUInt32).toInt32) &&& (3 : Int32))), .val (.int ((((16384 : Int32) - ((p4 &&& (63 : Int32)) + (1 : Int32))) - ((((p4.toUInt32 >>> ((11 : Int32) &&& 31).toUInt32).toInt32) &&& (3 : Int32)) + (1 : Int32))) - (1 : Int32))), .val (.ref b7)] [])) _
    refine XS.aload X14.here hx rfl (hb hby at_147) rfl rfl ?_
    show Steps p.tables e below (T14.setTop (mkF m 149 #[.val (.long q1), .second, .val (.int p2), .val (.int p3), .val (.int p4), .val (.ref b1), .val (.int (p4 &&& (63 : Int32))), .val (.int (((p4.toUInt32 >>> ((6 : Int32) &&& 31).toUInt32).toInt32) &&& (31 : Int32))), .val (.int (((p4.toUInt32 >>> ((11 : Int32) &&& 31).toUInt32).toInt32) &&& (3 : Int32))), .val (.int ((((16384 : Int32) - ((p4 &&& (63 : Int32)) + (1 : Int32))) - ((((p4.toUInt32 >>> ((11 : Int32) &&& 31).toUInt32).toInt32) &&& (3 : Int32)) + (1 : Int32))) - (1 : Int32))), .val (.ref b7)] [(.ref b1)])) _
    refine st16 _ ?_
    exact k)
  by_cases hc18 : (f2 (12304 : Int32) (fun i => if i = 12303 then ((((p3.toUInt32 >>> ((16 : Int32) &&& 31).toUInt32).toInt32).toInt8.toInt32).toInt8.toInt32) else (fun i => if i = 17 then ((((p3.toUInt32 >>> ((8 : Int32) &&& 31).toUInt32).toInt32).toInt8.toInt32).toInt8.toInt32) else (fun i => if i = 16 then ((p3.toInt8.toInt32).toInt8.toInt32) else (hdr (fun _ => 0) (0 : Int32) p2 q1) i) i) i)) = (0 : Int32)
  · obtain ⟨fs, hr, hrun, hended, hW, hsame⟩ := X16.leave (v := some (.int (0 : Int32))) (fun h => by rw [Bd.returns] at h; cases h)
    refine ⟨_, _, pre17 _ ?_, hrun, hended, _, _, rfl, ?_, ⟨_, rfl⟩, hW, hsame.mono (by decide) (by decide)⟩
    · show Steps p.tables e below (T16.setTop (mkF m 152 #[.val (.long q1), .second, .val (.int p2), .val (.int p3), .val (.int p4), .val (.ref b1), .val (.int (p4 &&& (63 : Int32))), .val (.int (((p4.toUInt32 >>> ((6 : Int32) &&& 31).toUInt32).toInt32) &&& (31 : Int32))), .val (.int (((p4.toUInt32 >>> ((11 : Int32) &&& 31).toUInt32).toInt32) &&& (3 : Int32))), .val (.int ((((16384 : Int32) - ((p4 &&& (63 : Int32)) + (1 : Int32))) - ((((p4.toUInt32 >>> ((11 : Int32) &&& 31).toUInt32).toInt32) &&& (3 : Int32)) + (1 : Int32))) - (1 : Int32))), .val (.ref b7)] [(.int (f2 (12304 : Int32) (fun i => if i = 12303 then ((((p3.toUInt32 >>> ((16 : Int32) &&& 31).toUInt32).toInt32).toInt8.toInt32).toInt8.toInt32) else (fun i => if i = 17 then ((((p3.toUInt32 >>> ((8 : Int32) &&& 31).toUInt32).toInt32).toInt8.toInt32).toInt8.toInt32) else (fun i => if i = 16 then ((p3.toInt8.toInt32).toInt8.toInt32) else (hdr (fun _ => 0) (0 : Int32) p2 q1) i) i) i)))])) _
      refine XS.ifYes X16.here hx rfl (pc0 := 152) (pc' := 167) rfl (hb hby at_152) rfl ((if0 _ _).trans (teq hc18).1) (by decide) (by decide) ?_
      show Steps p.tables e below (T16.setTop (mkF m 167 #[.val (.long q1), .second, .val (.int p2), .val (.int p3), .val (.int p4), .val (.ref b1), .val (.int (p4 &&& (63 : Int32))), .val (.int (((p4.toUInt32 >>> ((6 : Int32) &&& 31).toUInt32).toInt32) &&& (31 : Int32))), .val (.int (((p4.toUInt32 >>> ((11 : Int32) &&& 31).toUInt32).toInt32) &&& (3 : Int32))), .val (.int ((((16384 : Int32) - ((p4 &&& (63 : Int32)) + (1 : Int32))) - ((((p4.toUInt32 >>> ((11 : Int32) &&& 31).toUInt32).toInt32) &&& (3 : Int32)) + (1 : Int32))) - (1 : Int32))), .val (.ref b7)] [])) _
      refine XS.iconst X16.here hx rfl (hb hby at_167) ?_
      show Steps p.tables e below (T16.setTop (mkF m 168 #[.val (.long q1), .second, .val (.int p2), .val (.int p3), .val (.int p4), .val (.ref b1), .val (.int (p4 &&& (63 : Int32))), .val (.int (((p4.toUInt32 >>> ((6 : Int32) &&& 31).toUInt32).toInt32) &&& (31 : Int32))), .val (.int (((p4.toUInt32 >>> ((11 : Int32) &&& 31).toUInt32).toInt32) &&& (3 : Int32))), .val (.int ((((16384 : Int32) - ((p4 &&& (63 : Int32)) + (1 : Int32))) - ((((p4.toUInt32 >>> ((11 : Int32) &&& 31).toUInt32).toInt32) &&& (3 : Int32)) + (1 : Int32))) - (1 : Int32))), .val (.ref b7)] [(.int (0 : Int32))])) _
      exact retN X16 hx (t := .boolean) Bd.returns (by simp) (hb hby at_168) hr
    · show Q0 Z q1 p2 p3 p4 h0 n0 _ T16.heap _
      rw [e16]
      exact ⟨by rw [show (f0 q1 p2 p3 p4) = (0 : Int32) from by first | (rw [f0, if_pos hc18]; done) | (simp only [f0, if_pos hc18]; done) | rfl], N16⟩
  · obtain ⟨_, _, ⟨T20, L20, k20, n20⟩, -, X20, ⟨Lc20, hQ20, l20, y20, z20⟩, st20⟩ := Jvm.LawKit.callS X16 hx (y := (⟨"com/example/cardinality/cardinality/format/HyllValue", "isDense", "([B)Z"⟩ : MethodName)) hown (mvT hZ (hw _ (List.mem_of_getElem? (i := 5) rfl))) (mvT hZ (hw _ (List.mem_of_getElem? (i := 6) rfl))) (mvT hZ (hw _ (List.mem_of_getElem? (i := 7) rfl))) (mvT hZ (hw _ (List.mem_of_getElem? (i := 8) rfl))) (by decide) (backOf (W := 0) (rm2 l Z a0 hw [] b7 (20 : Int32) (fun i => if i = 19 then ((((((16384 : Int32) - ((p4 &&& (63 : Int32)) + (1 : Int32))) - ((((p4.toUInt32 >>> ((11 : Int32) &&& 31).toUInt32).toInt32) &&& (3 : Int32)) + (1 : Int32))) - (1 : Int32)).toInt8.toInt32).toInt8.toInt32) else (fun i => if i = 18 then ((((64 : Int32) ||| ((((((16384 : Int32) - ((p4 &&& (63 : Int32)) + (1 : Int32))) - ((((p4.toUInt32 >>> ((11 : Int32) &&& 31).toUInt32).toInt32) &&& (3 : Int32)) + (1 : Int32))) - (1 : Int32)).toUInt32 >>> ((8 : Int32) &&& 31).toUInt32).toInt32)).toInt8.toInt32).toInt8.toInt32) else (fun i => if i = 17 then (((((128 : Int32) ||| ((((p4.toUInt32 >>> ((6 : Int32) &&& 31).toUInt32).toInt32) &&& (31 : Int32)) <<< ((2 : Int32) &&& 31))) ||| (((p4.toUInt32 >>> ((11 : Int32) &&& 31).toUInt32).toInt32) &&& (3 : Int32))).toInt8.toInt32).toInt8.toInt32) else (fun i => if i = 16 then (((p4 &&& (63 : Int32)).toInt8.toInt32).toInt8.toInt32) else (hdr (fun _ => 0) (1 : Int32) p2 q1) i) i) i) i) h14 n0 (Nat.le_trans Z0 K14.1) V14) hZ (hw _ (List.mem_of_getElem? (i := 8) rfl)) (hw _ (List.mem_of_getElem? (i := 7) rfl)) (by decide) (by decide)) (g := (mkF m 157 #[.val (.long q1), .second, .val (.int p2), .val (.int p3), .val (.int p4), .val (.ref b1), .val (.int (p4 &&& (63 : Int32))), .val (.int (((p4.toUInt32 >>> ((6 : Int32) &&& 31).toUInt32).toInt32) &&& (31 : Int32))), .val (.int (((p4.toUInt32 >>> ((11 : Int32) &&& 31).toUInt32).toInt32) &&& (3 : Int32))), .val (.int ((((16384 : Int32) - ((p4 &&& (63 : Int32)) + (1 : Int32))) - ((((p4.toUInt32 >>> ((11 : Int32) &&& 31).toUInt32).toInt32) &&& (3 : Int32)) + (1 : Int32))) - (1 : Int32))), .val (.ref b7)] [(.ref b7)])) rfl (by rw [hml]; rfl) (argsL := [(.ref b7)]) (rest := []) (lenOf pd_1 rfl) rfl (by show 2 * 0 + _ ≤ _; exact Nat.le_of_eq rfl) (hb hby at_157) (fun _ _ => ⟨rfl, e16, (by decide : 2 + 0 ≤ _), (by decide : 12324 + 0 ≤ _)⟩)
    dsimp only [Pt.U, Pt.locs, Pt.cells, Pt.slots] at X20 l20 y20 z20 st20 hQ20
    subst l20 y20 z20
    obtain ⟨rfl, N20q, e20⟩ := hQ20
    have N20 := Fr.app N16 N20q
    have pre21 : ∀ t, Steps p.tables e below (T20.setTop (mkF m 160 #[.val (.long q1), .second, .val (.int p2), .val (.int p3), .val (.int p4), .val (.ref b1), .val (.int (p4 &&& (63 : Int32))), .val (.int (((p4.toUInt32 >>> ((6 : Int32) &&& 31).toUInt32).toInt32) &&& (31 : Int32))), .val (.int (((p4.toUInt32 >>> ((11 : Int32) &&& 31).toUInt32).toInt32) &&& (3 : Int32))), .val (.int ((((16384 : Int32) - ((p4 &&& (63 : Int32)) + (1 : Int32))) - ((((p4.toUInt32 >>> ((11 : Int32) &&& 31).toUInt32).toInt32) &&& (3 : Int32)) + (1 : Int32))) - (1 : Int32))), .val (.ref b7)] [(.int (f2 (20 : Int32) (fun i => if i = 19 then ((((((16384 : Int32) - ((p4 &&& (63 : Int32)) + (1 : Int32))) - ((((p4.toUInt32 >>> ((11 : Int32) &&& 31).toUInt32).toInt32) &&& (3 : Int32)) + (1 : Int32))) - (1 : Int32)).toInt8.toInt32).toInt8.toInt32) else (fun i => if i = 18 then ((((64 : Int32) ||| ((((((16384 : Int32) - ((p4 &&& (63 : Int32)) + (1 : Int32))) - ((((p4.toUInt32 >>> ((11 : Int32) &&& 31).toUInt32).toInt32) &&& (3 : Int32)) + (1 : Int32))) - (1 : Int32)).toUInt32 >>> ((8 : Int32) &&& 31).toUInt32).toInt32)).toInt8.toInt32).toInt8.toInt32) else (fun i => if i = 17 then (((((128 : Int32) ||| ((((p4.toUInt32 >>> ((6 : Int32) &&& 31).toUInt32).toInt32) &&& (31 : Int32)) <<< ((2 : Int32) &&& 31))) ||| (((p4.toUInt32 >>> ((11 : Int32) &&& 31).toUInt32).toInt32) &&& (3 : Int32))).toInt8.toInt32).toInt8.toInt32) else (fun i => if i = 16 then (((p4 &&& (63 : Int32)).toInt8.toInt32).toInt8.toInt32) else (hdr (fun _ => 0) (1 : Int32) p2 q1) i) i) i) i)))])) t → Steps p.tables e below (s₁.setTop (entryFrame m #[(.long q1), (.int p2), (.int p3), (.int p4)] maxLocals)) t := fun t k => pre17 t (by
      show Steps p.tables e below (T16.setTop (mkF m 152 #[.val (.long q1), .second, .val (.int p2), .val (.int p3), .val (.int p4), .val (.ref b1), .val (.int (p4 &&& (63 : Int32))), .val (.int (((p4.toUInt32 >>> ((6 : Int32) &&& 31).toUInt32).toInt32) &&& (31 : Int32))), .val (.int (((p4.toUInt32 >>> ((11 : Int32) &&& 31).toUInt32).toInt32) &&& (3 : Int32))), .val (.int ((((16384 : Int32) - ((p4 &&& (63 : Int32)) + (1 : Int32))) - ((((p4.toUInt32 >>> ((11 : Int32) &&& 31).toUInt32).toInt32) &&& (3 : Int32)) + (1 : Int32))) - (1 : Int32))), .val (.ref b7)] [(.int (f2 (12304 : Int32) (fun i => if i = 12303 then ((((p3.toUInt32 >>> ((16 : Int32) &&& 31).toUInt32).toInt32).toInt8.toInt32).toInt8.toInt32) else (fun i => if i = 17 then ((((p3.toUInt32 >>> ((8 : Int32) &&& 31).toUInt32).toInt32).toInt8.toInt32).toInt8.toInt32) else (fun i => if i = 16 then ((p3.toInt8.toInt32).toInt8.toInt32) else (hdr (fun _ => 0) (0 : Int32) p2 q1) i) i) i)))])) _
      refine XS.ifNo X16.here hx rfl (hb hby at_152) rfl ((if0 _ _).trans (feq hc18).1) ?_
      show Steps p.tables e below (T16.setTop (mkF m 155 #[.val (.long q1), .second, .val (.int p2), .val (.int p3), .val (.int p4), .val (.ref b1), .val (.int (p4 &&& (63 : Int32))), .val (.int (((p4.toUInt32 >>> ((6 : Int32) &&& 31).toUInt32).toInt32) &&& (31 : Int32))), .val (.int (((p4.toUInt32 >>> ((11 : Int32) &&& 31).toUInt32).toInt32) &&& (3 : Int32))), .val (.int ((((16384 : Int32) - ((p4 &&& (63 : Int32)) + (1 : Int32))) - ((((p4.toUInt32 >>> ((11 : Int32) &&& 31).toUInt32).toInt32) &&& (3 : Int32)) + (1 : Int32))) - (1 : Int32))), .val (.ref b7)] [])) _
      refine XS.aload X16.here hx rfl (hb hby at_155) rfl rfl ?_
      show Steps p.tables e below (T16.setTop (mkF m 157 #[.val (.long q1), .second, .val (.int p2), .val (.int p3), .val (.int p4), .val (.ref b1), .val (.int (p4 &&& (63 : Int32))), .val (.int (((p4.toUInt32 >>> ((6 : Int32) &&& 31).toUInt32).toInt32) &&& (31 : Int32))), .val (.int (((p4.toUInt32 >>> ((11 : Int32) &&& 31).toUInt32).toInt32) &&& (3 : Int32))), .val (.int ((((16384 : Int32) - ((p4 &&& (63 : Int32)) + (1 : Int32))) - ((((p4.toUInt32 >>> ((11 : Int32) &&& 31).toUInt32).toInt32) &&& (3 : Int32)) + (1 : Int32))) - (1 : Int32))), .val (.ref b7)] [(.ref b7)])) _
      refine st20 _ ?_
      exact k)
    by_cases hc22 : (f2 (20 : Int32) (fun i => if i = 19 then ((((((16384 : Int32) - ((p4 &&& (63 : Int32)) + (1 : Int32))) - ((((p4.toUInt32 >>> ((11 : Int32) &&& 31).toUInt32).toInt32) &&& (3 : Int32)) + (1 : Int32))) - (1 : Int32)).toInt8.toInt32).toInt8.toInt32) else (fun i => if i = 18 then ((((64 : Int32) ||| ((((((16384 : Int32) - ((p4 &&& (63 : Int32)) + (1 : Int32))) - ((((p4.toUInt32 >>> ((11 : Int32) &&& 31).toUInt32).toInt32) &&& (3 : Int32)) + (1 : Int32))) - (1 : Int32)).toUInt32 >>> ((8 : Int32) &&& 31).toUInt32).toInt32)).toInt8.toInt32).toInt8.toInt32) else (fun i => if i = 17 then (((((128 : Int32) ||| ((((p4.toUInt32 >>> ((6 : Int32) &&& 31).toUInt32).toInt32) &&& (31 : Int32)) <<< ((2 : Int32) &&& 31))) ||| (((p4.toUInt32 >>> ((11 : Int32) &&& 31).toUInt32).toInt32) &&& (3 : Int32))).toInt8.toInt32).toInt8.toInt32) else (fun i => if i = 16 then (((p4 &&& (63 : Int32)).toInt8.toInt32).toInt8.toInt32) else (hdr (fun _ => 0) (1 : Int32) p2 q1) i) i) i) i)) = (0 : Int32)
    · obtain ⟨fs, hr, hrun, hended, hW, hsame⟩ := X20.leave (v := some (.int (1 : Int32))) (fun h => by rw [Bd.returns] at h; cases h)
      refine ⟨_, _, pre21 _ ?_, hrun, hended, _, _, rfl, ?_, ⟨_, rfl⟩, hW, hsame.mono (by decide) (by decide)⟩
      · show Steps p.tables e below (T20.setTop (mkF m 160 #[.val (.long q1), .second, .val (.int p2), .val (.int p3), .val (.int p4), .val (.ref b1), .val (.int (p4 &&& (63 : Int32))), .val (.int (((p4.toUInt32 >>> ((6 : Int32) &&& 31).toUInt32).toInt32) &&& (31 : Int32))), .val (.int (((p4.toUInt32 >>> ((11 : Int32) &&& 31).toUInt32).toInt32) &&& (3 : Int32))), .val (.int ((((16384 : Int32) - ((p4 &&& (63 : Int32)) + (1 : Int32))) - ((((p4.toUInt32 >>> ((11 : Int32) &&& 31).toUInt32).toInt32) &&& (3 : Int32)) + (1 : Int32))) - (1 : Int32))), .val (.ref b7)] [(.int (f2 (20 : Int32) (fun i => if i = 19 then ((((((16384 : Int32) - ((p4 &&& (63 : Int32)) + (1 : Int32))) - ((((p4.toUInt32 >>> ((11 : Int32) &&& 31).toUInt32).toInt32) &&& (3 : Int32)) + (1 : Int32))) - (1 : Int32)).toInt8.toInt32).toInt8.toInt32) else (fun i => if i = 18 then ((((64 : Int32) ||| ((((((16384 : Int32) - ((p4 &&& (63 : Int32)) + (1 : Int32))) - ((((p4.toUInt32 >>> ((11 : Int32) &&& 31).toUInt32).toInt32) &&& (3 : Int32)) + (1 : Int32))) - (1 : Int32)).toUInt32 >>> ((8 : Int32) &&& 31).toUInt32).toInt32)).toInt8.toInt32).toInt8.toInt32) else (fun i => if i = 17 then (((((128 : Int32) ||| ((((p4.toUInt32 >>> ((6 : Int32) &&& 31).toUInt32).toInt32) &&& (31 : Int32)) <<< ((2 : Int32) &&& 31))) ||| (((p4.toUInt32 >>> ((11 : Int32) &&& 31).toUInt32).toInt32) &&& (3 : Int32))).toInt8.toInt32).toInt8.toInt32) else (fun i => if i = 16 then (((p4 &&& (63 : Int32)).toInt8.toInt32).toInt8.toInt32) else (hdr (fun _ => 0) (1 : Int32) p2 q1) i) i) i) i)))])) _
        refine XS.ifNo X20.here hx rfl (hb hby at_160) rfl ((if0 _ _).trans (teq hc22).2) ?_
        show Steps p.tables e below (T20.setTop (mkF m 163 #[.val (.long q1), .second, .val (.int p2), .val (.int p3), .val (.int p4), .val (.ref b1), .val (.int (p4 &&& (63 : Int32))), .val (.int (((p4.toUInt32 >>> ((6 : Int32) &&& 31).toUInt32).toInt32) &&& (31 : Int32))), .val (.int (((p4.toUInt32 >>> ((11 : Int32) &&& 31).toUInt32).toInt32) &&& (3 : Int32))), .val (.int ((((16384 : Int32) - ((p4 &&& (63 : Int32)) + (1 : Int32))) - ((((p4.toUInt32 >>> ((11 : Int32) &&& 31).toUInt32).toInt32) &&& (3 : Int32)) + (1 : Int32))) - (1 : Int32))), .val (.ref b7)] [])) _
        refine XS.iconst X20.here hx rfl (hb hby at_163) ?_
        show Steps p.tables e below (T20.setTop (mkF m 164 #[.val (.long q1), .second, .val (.int p2), .val (.int p3), .val (.int p4), .val (.ref b1), .val (.int (p4 &&& (63 : Int32))), .val (.int (((p4.toUInt32 >>> ((6 : Int32) &&& 31).toUInt32).toInt32) &&& (31 : Int32))), .val (.int (((p4.toUInt32 >>> ((11 : Int32) &&& 31).toUInt32).toInt32) &&& (3 : Int32))), .val (.int ((((16384 : Int32) - ((p4 &&& (63 : Int32)) + (1 : Int32))) - ((((p4.toUInt32 >>> ((11 : Int32) &&& 31).toUInt32).toInt32) &&& (3 : Int32)) + (1 : Int32))) - (1 : Int32))), .val (.ref b7)] [(.int (1 : Int32))])) _
        refine XS.goto X20.here hx rfl (pc0 := 164) (pc' := 168) rfl (hb hby at_164) (by decide) (by decide) ?_
        show Steps p.tables e below (T20.setTop (mkF m 168 #[.val (.long q1), .second, .val (.int p2), .val (.int p3), .val (.int p4), .val (.ref b1), .val (.int (p4 &&& (63 : Int32))), .val (.int (((p4.toUInt32 >>> ((6 : Int32) &&& 31).toUInt32).toInt32) &&& (31 : Int32))), .val (.int (((p4.toUInt32 >>> ((11 : Int32) &&& 31).toUInt32).toInt32) &&& (3 : Int32))), .val (.int ((((16384 : Int32) - ((p4 &&& (63 : Int32)) + (1 : Int32))) - ((((p4.toUInt32 >>> ((11 : Int32) &&& 31).toUInt32).toInt32) &&& (3 : Int32)) + (1 : Int32))) - (1 : Int32))), .val (.ref b7)] [(.int (1 : Int32))])) _
        exact retN X20 hx (t := .boolean) Bd.returns (by simp) (hb hby at_168) hr
      · show Q0 Z q1 p2 p3 p4 h0 n0 _ T20.heap _
        rw [e20]
        exact ⟨by rw [show (f0 q1 p2 p3 p4) = (1 : Int32) from by first | (rw [f0, if_neg hc18, if_pos hc22]; done) | (simp only [f0, if_neg hc18, if_pos hc22]; done) | rfl], N20⟩
    · obtain ⟨fs, hr, hrun, hended, hW, hsame⟩ := X20.leave (v := some (.int (0 : Int32))) (fun h => by rw [Bd.returns] at h; cases h)
      refine ⟨_, _, pre21 _ ?_, hrun, hended, _, _, rfl, ?_, ⟨_, rfl⟩, hW, hsame.mono (by decide) (by decide)⟩
      · show Steps p.tables e below (T20.setTop (mkF m 160 #[.val (.long q1), .second, .val (.int p2), .val (.int p3), .val (.int p4), .val (.ref b1), .val (.int (p4 &&& (63 : Int32))), .val (.int (((p4.toUInt32 >>> ((6 : Int32) &&& 31).toUInt32).toInt32) &&& (31 : Int32))), .val (.int (((p4.toUInt32 >>> ((11 : Int32) &&& 31).toUInt32).toInt32) &&& (3 : Int32))), .val (.int ((((16384 : Int32) - ((p4 &&& (63 : Int32)) + (1 : Int32))) - ((((p4.toUInt32 >>> ((11 : Int32) &&& 31).toUInt32).toInt32) &&& (3 : Int32)) + (1 : Int32))) - (1 : Int32))), .val (.ref b7)] [(.int (f2 (20 : Int32) (fun i => if i = 19 then ((((((16384 : Int32) - ((p4 &&& (63 : Int32)) + (1 : Int32))) - ((((p4.toUInt32 >>> ((11 : Int32) &&& 31).toUInt32).toInt32) &&& (3 : Int32)) + (1 : Int32))) - (1 : Int32)).toInt8.toInt32).toInt8.toInt32) else (fun i => if i = 18 then ((((64 : Int32) ||| ((((((16384 : Int32) - ((p4 &&& (63 : Int32)) + (1 : Int32))) - ((((p4.toUInt32 >>> ((11 : Int32) &&& 31).toUInt32).toInt32) &&& (3 : Int32)) + (1 : Int32))) - (1 : Int32)).toUInt32 >>> ((8 : Int32) &&& 31).toUInt32).toInt32)).toInt8.toInt32).toInt8.toInt32) else (fun i => if i = 17 then (((((128 : Int32) ||| ((((p4.toUInt32 >>> ((6 : Int32) &&& 31).toUInt32).toInt32) &&& (31 : Int32)) <<< ((2 : Int32) &&& 31))) ||| (((p4.toUInt32 >>> ((11 : Int32) &&& 31).toUInt32).toInt32) &&& (3 : Int32))).toInt8.toInt32).toInt8.toInt32) else (fun i => if i = 16 then (((p4 &&& (63 : Int32)).toInt8.toInt32).toInt8.toInt32) else (hdr (fun _ => 0) (1 : Int32) p2 q1) i) i) i) i)))])) _
        refine XS.ifYes X20.here hx rfl (pc0 := 160) (pc' := 167) rfl (hb hby at_160) rfl ((if0 _ _).trans (feq hc22).2) (by decide) (by decide) ?_
        show Steps p.tables e below (T20.setTop (mkF m 167 #[.val (.long q1), .second, .val (.int p2), .val (.int p3), .val (.int p4), .val (.ref b1), .val (.int (p4 &&& (63 : Int32))), .val (.int (((p4.toUInt32 >>> ((6 : Int32) &&& 31).toUInt32).toInt32) &&& (31 : Int32))), .val (.int (((p4.toUInt32 >>> ((11 : Int32) &&& 31).toUInt32).toInt32) &&& (3 : Int32))), .val (.int ((((16384 : Int32) - ((p4 &&& (63 : Int32)) + (1 : Int32))) - ((((p4.toUInt32 >>> ((11 : Int32) &&& 31).toUInt32).toInt32) &&& (3 : Int32)) + (1 : Int32))) - (1 : Int32))), .val (.ref b7)] [])) _
        refine XS.iconst X20.here hx rfl (hb hby at_167) ?_
        show Steps p.tables e below (T20.setTop (mkF m 168 #[.val (.long q1), .second, .val (.int p2), .val (.int p3), .val (.int p4), .val (.ref b1), .val (.int (p4 &&& (63 : Int32))), .val (.int (((p4.toUInt32 >>> ((6 : Int32) &&& 31).toUInt32).toInt32) &&& (31 : Int32))), .val (.int (((p4.toUInt32 >>> ((11 : Int32) &&& 31).toUInt32).toInt32) &&& (3 : Int32))), .val (.int ((((16384 : Int32) - ((p4 &&& (63 : Int32)) + (1 : Int32))) - ((((p4.toUInt32 >>> ((11 : Int32) &&& 31).toUInt32).toInt32) &&& (3 : Int32)) + (1 : Int32))) - (1 : Int32))), .val (.ref b7)] [(.int (0 : Int32))])) _
        exact retN X20 hx (t := .boolean) Bd.returns (by simp) (hb hby at_168) hr
      · show Q0 Z q1 p2 p3 p4 h0 n0 _ T20.heap _
        rw [e20]
        exact ⟨by rw [show (f0 q1 p2 p3 p4) = (0 : Int32) from by first | (rw [f0, if_neg hc18, if_neg hc22]; done) | (simp only [f0, if_neg hc18, if_neg hc22]; done) | rfl], N20⟩

theorem own_main (q1 : Int64) (p2 p3 p4 : Int32) : f0 q1 p2 p3 p4 = 1 := rfl

set_option maxRecDepth 65536 in
set_option maxHeartbeats 40000000 in
theorem comes_1 {Post : Tables → Env → Array Value → State → Outcome → State → Prop} (hpost : ∀ tb e args s v u, (limb_1_1.after args s (.returned v) u = true ∧ limb_1_2.after args s (.returned v) u = true ∧ True) → FrameEnd s (.returned v) u (Jvm.fieldLocs frame_1_writes args s ++ Jvm.arrayLocs frame_1_arrays args s ++ Jvm.staticLocs frame_1_statics s) 16 24768 → Post tb e args s (.returned v) u) :
    ArmFor flags0 classFile x code maxLocals ret World_1 tables_1 room_1 Calls_1 rest_1 Pre_1 Post := by
  intro l hfl _ _ p e ha hc hk s m args below hf hA hF happ hP
  obtain ⟨hcalls, hrest, hpre⟩ := hP
  obtain ⟨-, -, -, hnamed, -, -, -, hat⟩ := (Spec.applies_iff hf).mp happ
  obtain ⟨hg, hn⟩ := and_e (Cond.before_iff.mp (show (Jvm.Cond.and given_1 narrow_1).before args s = true from hpre))
  obtain ⟨g1, g2⟩ := and_e hg
  obtain ⟨g3, g4⟩ := and_e g2
  obtain ⟨g5, g6⟩ := and_e g4
  obtain ⟨g7, g8⟩ := and_e g6
  obtain ⟨w0, w1, w2, w3, rfl⟩ : ∃ w0 w1 w2 w3 : Value, args = #[w0, w1, w2, w3] := by
    have hs : args.size = 4 := by simpa [Cond.value, given_1] using g1
    obtain ⟨L⟩ := args
    match L, hs with
    | [w0, w1, w2, w3], _ => exact ⟨w0, w1, w2, w3, rfl⟩
  have hw := fun d (hd : d ∈ tables_1) => atoms_spec (ws := Jvm.Cond.code x code maxLocals ret :: tables_1) hat d (List.mem_cons_of_mem _ hd)
  have hfit : Fit s := fun {y c} hc i hi => by
    obtain ⟨ha, rfl⟩ := Array.getElem?_eq_some_iff.mp hc
    have q := List.all_eq_true.mp ((Array.all_eq_true_iff_forall_mem.mp hF) _ (Array.getElem_mem ha)) i (List.mem_range.mpr hi)
    simpa [Array.getElem?_eq_getElem hi] using q
  obtain ⟨i0, ei0⟩ := isL_v g3
  obtain rfl : w0 = (.long i0) := Option.some.inj ei0
  obtain ⟨i1, ei1⟩ := is_v g5
  obtain rfl : w1 = (.int i1) := Option.some.inj ei1
  obtain ⟨i2, ei2⟩ := is_v g7
  obtain rfl : w2 = (.int i2) := Option.some.inj ei2
  obtain ⟨i3, ei3⟩ := is_v g8
  obtain rfl : w3 = (.int i3) := Option.some.inj ei3
  obtain ⟨n, o, h1, h2, h3, _, L, rfl, ⟨rfl, N⟩, hq⟩ := rm0 l s _ hw tables_1 i0 i1 i2 i3 s.heap s.heap.size (Nat.le_refl _) p e ha hc hk s m _ below hf ((Spec.applies_iff_loose hf).mp happ).1 ⟨rfl, State.Warmed39.refl s, rfl⟩ trivial
  refine ⟨n, _, h1, h2, h3, hpost _ _ _ _ _ _ ⟨Cond.after_iff.mpr rfl, Cond.after_iff.mpr (eq_i res_at (Term.int_eval (1)) (congrArg Value.int (own_main i0 i1 i2 i3))), trivial⟩ ⟨hq.1, hq.2.1, (hq.2.2.sift fun y hy => Or.inr (N y hy)).mono (by decide) (by decide)⟩⟩
theorem main_1_1 : Claimed_1_1 := comes_1 fun _ _ _ _ _ _ h hF => ⟨h.1, hF⟩
theorem main_1_2 : Claimed_1_2 := comes_1 fun _ _ _ _ _ _ h hF => ⟨h.2.1, hF⟩
end Jvm.Pilot.@@N@@
namespace Jvm.Pilot.@@N@@
open Jvm Jvm.ClassFile Sem Op Lib Jvm.Free Jvm.Stand Jvm.Pilot.@@N@@.Jvm.D
/-! MADE BY PROGRAM (witnessworld.py) out of the Statement's table words and the real class files: 9 classes; the members and pool entries that the words name. The judged class is class 1, her method 2. -/
namespace start1
open Jvm.ClassFile
def u (s : String) : CpInfo := .utf8 (stringToUtf16 s)
/-- a pool by its gaps: so many unusable entries, then the entry; so many at the end -/
def gap : Nat → List CpInfo → List CpInfo
  | 0, r => r
  | n + 1, r => .unusable :: gap n r
def poolList (es : List (Nat × CpInfo)) (last : Nat) : List CpInfo := es.foldr (fun e r => gap e.1 (e.2 :: r)) (gap last [])
def pool (es : List (Nat × CpInfo)) (last : Nat) : Array CpInfo := ⟨poolList es last⟩
def fileOf (pool : Array CpInfo) (this : Nat) (attrs : Array Attribute := #[]) (ms : Array MethodInfo := #[]) (fl : Nat := 33) (sup : Nat := 0) (ifs : Array Nat := #[]) (fds : Array FieldInfo := #[]) : ClassFile where
  minorVersion := 0
  majorVersion := 65
  constantPool := pool
  accessFlags := fl
  thisClass := this
  superClass := sup
  interfaces := ifs
  fields := fds
  methods := ms
  attributes := attrs
def plain (name : String) (sup : Option ClassId) : Class where
  name := name
  kind := .ordinary
  loader := none
  accessFlags := 33
  super := sup
  interfaces := #[]
  cf := none
  fields := #[]
  methods := #[]
  instanceTypes := #[]
  staticTypes := #[]
  resolved := #[]
  callSites := []
  init := .initialized
  statics := none
  mirror := none

def pool0 : Array CpInfo := pool [(5, u "<init>"), (0, u "()V"), (1, .class_ 10), (1, u "java/lang/Object")] 113

def k0m0 : Method := { name := "<init>", desc := "()V", sig := { parameters := [], returnType := none }, accessFlags := 1, code := none }
/-- java/lang/Object -/
def k0 : Class := { plain "java/lang/Object" none with
  accessFlags := 33
  interfaces := #[]
  cf := some (fileOf pool0 8 #[] #[{ accessFlags := 1, nameIndex := 5, descriptorIndex := 6, attributes := #[] }] 33 0 #[] #[])
  fields := #[]
  methods := #[k0m0]
  instanceTypes := #[]
  staticTypes := #[]
  resolved := Array.replicate 124 none
  statics := none }

def pool1 : Array CpInfo := pool [(2, .class_ 4), (1, u "java/lang/Object"), (0, u "<init>"), (0, u "()V"), (0, .class_ 8), (0, u "com/example/cardinality/cardinality/format/HyllValue"), (0, .methodref 10 11), (0, .class_ 12), (0, .nameAndType 13 14), (0, u "com/example/cardinality/cardinality/format/HyllValueIsDensePinLaw"), (0, u "header"), (0, u "([BIIJ)V"), (0, .methodref 7 16), (0, .nameAndType 17 18), (0, u "isDense"), (0, u "([B)Z"), (2, u "law"), (0, u "(JIII)Z")] 5

def k1m0 : Method := { name := "<init>", desc := "()V", sig := { parameters := [], returnType := none }, accessFlags := 2, code := none }
def k1c1 : Code := { maxStack := 5, maxLocals := 5, code := method_2_code, exceptionTable := #[], attributes := #[] }
def k1m1 : Method := { name := "header", desc := "([BIIJ)V", sig := { parameters := [(.array .byte), .int, .int, .long], returnType := none }, accessFlags := 10, code := some k1c1 }
def k1c2 : Code := { maxStack := 5, maxLocals := 11, code := code, exceptionTable := #[], attributes := #[] }
def k1m2 : Method := { name := "law", desc := "(JIII)Z", sig := { parameters := [.long, .int, .int, .int], returnType := some .boolean }, accessFlags := 9, code := some k1c2 }
/-- com/example/cardinality/cardinality/format/HyllValueIsDensePinLaw -/
def k1 : Class := { plain "com/example/cardinality/cardinality/format/HyllValueIsDensePinLaw" (some 0) with
  accessFlags := 49
  interfaces := #[]
  cf := some (fileOf pool1 10 #[] #[{ accessFlags := 2, nameIndex := 5, descriptorIndex := 6, attributes := #[] }, { accessFlags := 10, nameIndex := 13, descriptorIndex := 14, attributes := #[] }, { accessFlags := 9, nameIndex := 21, descriptorIndex := 22, attributes := #[] }] 49 2 #[] #[])
  fields := #[]
  methods := #[k1m0, k1m1, k1m2]
  instanceTypes := #[]
  staticTypes := #[]
  resolved := Array.replicate 28 none
  statics := none }

def pool2 : Array CpInfo := pool [(1, .class_ 2), (0, u "com/example/cardinality/cardinality/format/HyllValue"), (3, .class_ 8), (1, u "java/lang/Object"), (0, u "<init>"), (0, u "()V"), (48, u "MAGIC"), (0, u "[B"), (16, u "([B)Z"), (53, u "HEADER_BYTES"), (0, u "I"), (2, u "REGISTER_COUNT"), (1, u "MAX_REGISTER"), (1, u "SPARSE_MAX_REGISTER"), (1, u "SPARSE_MAX_BYTES"), (1, u "SPARSE_MAX_GROWTH"), (1, u "MAX_BYTES"), (0, u "DENSE_BITS"), (1, u "DENSE_BYTES"), (1, u "ENCODING_OFFSET"), (1, u "COUNT_OFFSET"), (1, u "DENSE"), (1, u "SPARSE"), (1, u "VAL_FLAG"), (1, u "XZERO_FLAG"), (1, u "ZERO_MAX_RUN"), (0, u "VAL_MAX_RUN"), (8, u "isDense")] 31

def k2m0 : Method := { name := "<init>", desc := "()V", sig := { parameters := [], returnType := none }, accessFlags := 2, code := none }
def k2c1 : Code := { maxStack := 2, maxLocals := 1, code := prog_20_method_6_code, exceptionTable := #[], attributes := #[] }
def k2m1 : Method := { name := "isDense", desc := "([B)Z", sig := { parameters := [(.array .byte)], returnType := some .boolean }, accessFlags := 9, code := some k2c1 }
/-- com/example/cardinality/cardinality/format/HyllValue -/
def k2 : Class := { plain "com/example/cardinality/cardinality/format/HyllValue" (some 0) with
  accessFlags := 49
  interfaces := #[]
  cf := some (fileOf pool2 1 #[] #[{ accessFlags := 2, nameIndex := 9, descriptorIndex := 10, attributes := #[] }, { accessFlags := 9, nameIndex := 172, descriptorIndex := 77, attributes := #[] }] 49 6 #[] #[{ accessFlags := 26, nameIndex := 131, descriptorIndex := 132, attributes := #[] }, { accessFlags := 25, nameIndex := 135, descriptorIndex := 132, attributes := #[] }, { accessFlags := 25, nameIndex := 137, descriptorIndex := 132, attributes := #[] }, { accessFlags := 25, nameIndex := 139, descriptorIndex := 132, attributes := #[] }, { accessFlags := 25, nameIndex := 141, descriptorIndex := 132, attributes := #[] }, { accessFlags := 25, nameIndex := 143, descriptorIndex := 132, attributes := #[] }, { accessFlags := 25, nameIndex := 145, descriptorIndex := 132, attributes := #[] }, { accessFlags := 26, nameIndex := 146, descriptorIndex := 132, attributes := #[] }, { accessFlags := 25, nameIndex := 148, descriptorIndex := 132, attributes := #[] }, { accessFlags := 26, nameIndex := 59, descriptorIndex := 60, attributes := #[] }, { accessFlags := 26, nameIndex := 150, descriptorIndex := 132, attributes := #[] }, { accessFlags := 26, nameIndex := 152, descriptorIndex := 132, attributes := #[] }, { accessFlags := 26, nameIndex := 154, descriptorIndex := 132, attributes := #[] }, { accessFlags := 26, nameIndex := 156, descriptorIndex := 132, attributes := #[] }, { accessFlags := 26, nameIndex := 158, descriptorIndex := 132, attributes := #[] }, { accessFlags := 26, nameIndex := 160, descriptorIndex := 132, attributes := #[] }, { accessFlags := 26, nameIndex := 162, descriptorIndex := 132, attributes := #[] }, { accessFlags := 26, nameIndex := 163, descriptorIndex := 132, attributes := #[] }])
  fields := #[{ name := "HEADER_BYTES", type := .int, accessFlags := 26, slot := 0, constantValue := 0 }, { name := "REGISTER_COUNT", type := .int, accessFlags := 25, slot := 1, constantValue := 0 }, { name := "MAX_REGISTER", type := .int, accessFlags := 25, slot := 2, constantValue := 0 }, { name := "SPARSE_MAX_REGISTER", type := .int, accessFlags := 25, slot := 3, constantValue := 0 }, { name := "SPARSE_MAX_BYTES", type := .int, accessFlags := 25, slot := 4, constantValue := 0 }, { name := "SPARSE_MAX_GROWTH", type := .int, accessFlags := 25, slot := 5, constantValue := 0 }, { name := "MAX_BYTES", type := .int, accessFlags := 25, slot := 6, constantValue := 0 }, { name := "DENSE_BITS", type := .int, accessFlags := 26, slot := 7, constantValue := 0 }, { name := "DENSE_BYTES", type := .int, accessFlags := 25, slot := 8, constantValue := 0 }, { name := "MAGIC", type := (.array .byte), accessFlags := 26, slot := 9, constantValue := 0 }, { name := "ENCODING_OFFSET", type := .int, accessFlags := 26, slot := 10, constantValue := 0 }, { name := "COUNT_OFFSET", type := .int, accessFlags := 26, slot := 11, constantValue := 0 }, { name := "DENSE", type := .int, accessFlags := 26, slot := 12, constantValue := 0 }, { name := "SPARSE", type := .int, accessFlags := 26, slot := 13, constantValue := 0 }, { name := "VAL_FLAG", type := .int, accessFlags := 26, slot := 14, constantValue := 0 }, { name := "XZERO_FLAG", type := .int, accessFlags := 26, slot := 15, constantValue := 0 }, { name := "ZERO_MAX_RUN", type := .int, accessFlags := 26, slot := 16, constantValue := 0 }, { name := "VAL_MAX_RUN", type := .int, accessFlags := 26, slot := 17, constantValue := 0 }]
  methods := #[k2m0, k2m1]
  instanceTypes := #[]
  staticTypes := #[.int, .int, .int, .int, .int, .int, .int, .int, .int, (.array .byte), .int, .int, .int, .int, .int, .int, .int, .int]
  resolved := Array.replicate 204 none
  statics := none }

def pool3 : Array CpInfo := pool [(1, u "java/lang/Cloneable"), (0, .class_ 1), (0, u "java/lang/Object"), (0, .class_ 3)] 3

/-- java/lang/Cloneable -/
def k3 : Class := { plain "java/lang/Cloneable" (some 0) with
  accessFlags := 1537
  interfaces := #[]
  cf := some (fileOf pool3 2 #[] #[] 1537 4 #[] #[])
  fields := #[]
  methods := #[]
  instanceTypes := #[]
  staticTypes := #[]
  resolved := Array.replicate 8 none
  statics := none }

def pool4 : Array CpInfo := pool [(1, u "java/io/Serializable"), (0, .class_ 1), (0, u "java/lang/Object"), (0, .class_ 3)] 3

/-- java/io/Serializable -/
def k4 : Class := { plain "java/io/Serializable" (some 0) with
  accessFlags := 1537
  interfaces := #[]
  cf := some (fileOf pool4 2 #[] #[] 1537 4 #[] #[])
  fields := #[]
  methods := #[]
  instanceTypes := #[]
  staticTypes := #[]
  resolved := Array.replicate 8 none
  statics := none }

/-- the primitive byte -/
def k5 : Class := { plain "byte" none with kind := .primitive 'B', accessFlags := 0x411 }
/-- [B -/
def k6 : Class := { plain "[B" (some 0) with kind := .array 5 .byte, interfaces := #[3, 4], accessFlags := 1041 }

/-- the primitive int -/
def k7 : Class := { plain "int" none with kind := .primitive 'I', accessFlags := 0x411 }
/-- [I -/
def k8 : Class := { plain "[I" (some 0) with kind := .array 7 .int, interfaces := #[3, 4], accessFlags := 1041 }

def heap : Heap := #[]
def classes : Array Class := #[k0, k1, k2, k3, k4, k5, k6, k7, k8]
def interned : List (Array UInt16 × Addr) := []
def slotsUsed : Nat := 0
def theMethod : MethodId := ⟨1, 2⟩
def args0 : Array Value := #[.long 5, .int 6, .int 7, .int 8]
def aboutOver (below : List Frame) : State where
  vm := { classes := classes, interned := interned.toArray }
  heap := heap
  slotsUsed := slotsUsed
  threads := #[{ frames := .invoking theMethod args0 :: below }]
def below0 : List Frame := [.native { method := ⟨0, 0⟩, args := #[] }]
def about1 : State := aboutOver below0
def p0 : Program := .bare "" "" ""
def e0 : Env := launch0.env 0 0 0
theorem w_frames : about1.frames = Frame.invoking theMethod args0 :: below0 := rfl
set_option maxRecDepth 65536 in
theorem w_args : argsFit about1.vm theMethod args0 = true := by decide +kernel
set_option maxRecDepth 65536 in
theorem w_heap : heapFits about1 = true := by decide +kernel
set_option maxRecDepth 65536 in
theorem w_runnable : about1.curStatus? = some .runnable := by decide +kernel
set_option maxRecDepth 65536 in
theorem w_alone : about1.alone = true := by decide +kernel
set_option maxRecDepth 65536 in
theorem w_named : about1.methodNamed? x = some theMethod := by decide +kernel
set_option maxRecDepth 65536 in
theorem w_hears : about1.hears theMethod below0 = true := by decide +kernel
set_option maxRecDepth 65536 in
theorem w_ripe : about1.ripe theMethod args0 below0 = true := by decide +kernel
theorem w_running : about1.status = .running := rfl
set_option maxRecDepth 65536 in
theorem w_room : about1.hasRoom e0.platform room_1 = true :=
  launch0.hasRoom_least _ room_1 (by decide +kernel) (by decide +kernel) (by decide +kernel) (by decide +kernel) (by decide +kernel) (by decide +kernel)
theorem allAtoms_all (ts : List Jvm.Cond) (a : Array Jvm.Value) (st : Jvm.State) : (allAtoms ts).before a st = ts.all (fun c => c.before a st) := by
  induction ts with
  | nil => rfl
  | cons c t ih =>
    show (Jvm.Cond.and c (allAtoms t)).before a st = _
    rw [Jvm.Cond.before_and, ih, List.all_cons]
def words1 : List Jvm.Cond := Jvm.Cond.code x code maxLocals ret :: tables_1
/-- a 'code' word, met by the world's own term for the bytes: nothing is compared byte by byte -/
theorem code_word {y : MethodName} {bytes : ByteArray} {mx : Nat} {rt : Option FieldType} {a : Array Value} {s : State} {m : MethodId} {meth : Method} {c : Code} (h1 : s.methodNamed? y = some m) (h2 : s.vm.method? m = some meth) (h3 : meth.code = some c) (h4 : c.code = bytes)
    (h5 : (c.maxLocals == mx && c.exceptionTable.isEmpty && decide (c.maxStack ≤ mostOperands) && decide (meth.sig.returnType = rt) && !meth.locks && decide (parseMethodDescriptor y.desc = some meth.sig)) = true) : (Jvm.Cond.code y bytes mx rt).before a s = true := by
  simp only [Bool.and_eq_true, beq_iff_eq, Bool.not_eq_true', decide_eq_true_eq] at h5
  obtain ⟨⟨⟨⟨⟨g1, g2⟩, g3⟩, g4⟩, g5⟩, g6⟩ := h5
  simp [Cond.before, Cond.holds, Cond.value, h1, h2, h3, h4, g1, g2, g3, g4, g5, g6]
def isCode : Jvm.Cond → Bool
  | .code _ _ _ _ => true
  | _ => false
theorem all_split {L : List Jvm.Cond} {P : Jvm.Cond → Bool} (h1 : L.all (fun c => isCode c || P c) = true) (h2 : ∀ c ∈ L.filter isCode, P c = true) : L.all P = true := by
  refine List.all_eq_true.mpr fun c hc => ?_
  have h := List.all_eq_true.mp h1 c hc
  rcases Bool.eq_false_or_eq_true (isCode c) with hi | hi
  · exact h2 c (List.mem_filter.mpr ⟨hc, hi⟩)
  · simpa [hi] using h
set_option maxRecDepth 65536 in
theorem w_c0 : (Jvm.Cond.code x code maxLocals ret).before args0 about1 = true := code_word (m := ⟨1, 2⟩) (meth := k1m2) (c := k1c2) (by decide +kernel) rfl rfl rfl (by decide +kernel)
set_option maxRecDepth 65536 in
theorem w_c1 : (Jvm.Cond.code ({ cls := "com/example/cardinality/cardinality/format/HyllValueIsDensePinLaw", name := "header", desc := "([BIIJ)V" } : Jvm.MethodName) method_2_code (5 : Nat) (Option.none : Option Jvm.ClassFile.FieldType)).before args0 about1 = true := code_word (m := ⟨1, 1⟩) (meth := k1m1) (c := k1c1) (by decide +kernel) rfl rfl rfl (by decide +kernel)
set_option maxRecDepth 65536 in
theorem w_c2 : (Jvm.Cond.code ({ cls := "com/example/cardinality/cardinality/format/HyllValue", name := "isDense", desc := "([B)Z" } : Jvm.MethodName) prog_20_method_6_code (1 : Nat) (Option.some Jvm.ClassFile.FieldType.boolean)).before args0 about1 = true := code_word (m := ⟨2, 1⟩) (meth := k2m1) (c := k2c1) (by decide +kernel) rfl rfl rfl (by decide +kernel)
def codes1 : List Jvm.Cond := [Jvm.Cond.code x code maxLocals ret, Jvm.Cond.code ({ cls := "com/example/cardinality/cardinality/format/HyllValueIsDensePinLaw", name := "header", desc := "([BIIJ)V" } : Jvm.MethodName) method_2_code (5 : Nat) (Option.none : Option Jvm.ClassFile.FieldType), Jvm.Cond.code ({ cls := "com/example/cardinality/cardinality/format/HyllValue", name := "isDense", desc := "([B)Z" } : Jvm.MethodName) prog_20_method_6_code (1 : Nat) (Option.some Jvm.ClassFile.FieldType.boolean)]
set_option maxRecDepth 65536 in
theorem codes_eq : words1.filter isCode = codes1 := rfl
theorem w_codes : ∀ c ∈ words1.filter isCode, c.before args0 about1 = true := by
  rw [codes_eq]
  intro c hc
  simp only [codes1, List.mem_cons, List.not_mem_nil, or_false] at hc
  rcases hc with rfl | rfl | rfl
  · exact w_c0
  · exact w_c1
  · exact w_c2
set_option maxRecDepth 65536 in
theorem w_t1 : words1.all (fun c => isCode c || c.before args0 about1) = true := by decide +kernel
theorem w_tables : (allAtoms (Jvm.Cond.code x code maxLocals ret :: tables_1)).before args0 about1 = true := by
  rw [allAtoms_all]
  show words1.all (fun c => c.before args0 about1) = true
  refine all_split ?_ w_codes
  rw [w_t1]
set_option maxRecDepth 65536 in
theorem w_case : (Jvm.Cond.and given_1 narrow_1).before args0 about1 = true := by decide +kernel
theorem w_applies : (headSpec (Jvm.Cond.code x code maxLocals ret :: tables_1) room_1).applies x e0.platform about1 = true :=
  (Spec.applies_iff w_frames).mpr ⟨w_running, w_runnable, w_alone, w_named, w_hears, w_ripe, w_room, w_tables⟩
theorem atStart : AtStart classFile x code maxLocals ret World_1 tables_1 room_1 Calls_1 rest_1 Pre_1 launch0 p0 e0 about1 theMethod args0 below0 :=
  ⟨lists_1, trivial, launch0.admits_env _ _ _, launch0.least_env, fairChoices_fair.cas, fairChoices_fair.clock, w_frames, w_args, w_heap, w_applies, trivial, trivial, w_case⟩
end start1
theorem witness_1 : WitnessClaimed_1 := ⟨start1.p0, start1.e0, start1.about1, start1.theMethod, start1.args0, start1.below0, start1.atStart⟩
end Jvm.Pilot.@@N@@

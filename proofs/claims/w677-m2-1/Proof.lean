import JvmDerived
import JvmDerived.Pilot.@@N@@Statement
import JvmDerived.Pilot.@@N@@Code
set_option linter.unusedVariables false
set_option linter.unusedSimpArgs false
namespace Jvm.RoadKit
open Sem ClassFile Op Lib Jvm.Stand Jvm.Free Jvm.LawKit
section New
variable {p : Program} {l : Launch} {e : Env} {R : Room} {s : State} {m : MethodId} {args : Array Value} {below : List Frame} {meth : Method} {c : Code} {T : State} {locs : List Loc} {cells slots : Nat}
theorem retI (X : Stand p l e R s m args below meth c T locs cells slots) (hx : p.tables.exec = Jvm.exec) {pc : Nat} {Ls : Array Slot} {z : Int32} {rest : List Value} (hret : meth.sig.returnType = some .int) (hd : decode c.code pc = .ok (.ireturn, 1)) {fs : List Frame}
    (hl : ∀ (f : JFrame) (acts : List Action), f.method = m → f.locked = none → f.entered = [] → (doReturn e (T.setTop f) acts (some (.int z))).1 = T.setFrames fs) : Steps p.tables e below (T.setTop (mkF m pc Ls (.int z :: rest))) (T.setFrames fs) := by
  have hm' : T.vm.method? m = some meth := X.method'
  have hn : narrow .int (.int z) = .int z := rfl
  show Steps p.tables e below (T.setTop { method := m, pc := pc, locals := Ls, stack := _ :: rest, locked := none }) _
  jvm_step X.here [X.here.top, hx, hd, hm', hret, hn]
  first | (intro acts; rw [hl _ acts rfl rfl rfl]) | rw [hl _ _ rfl rfl rfl]
  exact Steps.refl _
end New
end Jvm.RoadKit
namespace Jvm.Pilot.@@N@@
open Jvm Jvm.ClassFile Sem Op Lib Jvm.Free Jvm.Stand Jvm.LawKit Jvm.RoadKit Bundle Jvm.Pilot.@@N@@.Jvm.D
theorem own_w {α : Type _} {l : List α} {a : α} (i : Nat) (h : l[i]? = some a) : a ∈ l := List.mem_of_getElem? h
theorem own_eqint {args : Array Value} {first s : State} {o : Option Outcome} {idx : List Nat} {t : Term} {n : Int32} (h : (Jvm.Cond.eq t (.int n)).value args first o s idx = some true) : t.eval args first o idx s = some (.int n) := by
  obtain ⟨x, y, hx, hy, -, k⟩ := cmp_v (Or.inl h)
  obtain rfl : y = .int n := (Option.some.inj ((Term.int_eval n).symm.trans hy)).symm
  obtain ⟨z, rfl⟩ := k
  simp only [Cond.value, hx, hy] at h
  rw [hx, show z = n by simpa using h]
theorem own_stakeep {Z : State} {h h' : Heap} {C n d : String} {v : Value} (K : Keep h h' []) (F : Sta Z h C n d v) : Sta Z h' C n d v := F.ext ⟨K.1, fun a c q => K.2.1 a c q nin0⟩
theorem own_selpriv {s : State} {args : Array Value} {y : MethodName} {n : Nat} (hi : (Jvm.Cond.instantiable y.cls n).before args s = true) (hp : s.PrivateAt y) (hinst : (Jvm.Cond.instanceMethod y).before args s = true) (hy : y.cls ≠ "java/lang/invoke/MethodHandle" ∧ y.cls ≠ "java/lang/invoke/VarHandle") : (Jvm.Cond.selects y.cls y y).before args s = true := by
  obtain ⟨c, k, h1, h2, h3, h4, -⟩ := Cond.instantiable_spec hi
  exact selects_self_of_private h1 h2 (Bool.or_eq_false_iff.mp h4).1 hp hinst hy
theorem own_lceq {a b : Int64} (h : a = b) : lcmpW a b = 0 := by subst h; simp [lcmpW, Int64.lt_irrefl]
theorem own_lcne {a b : Int64} (h : ¬ a = b) : ¬ lcmpW a b = 0 := by
  unfold lcmpW; split
  · decide
  · first | decide | (rw [if_neg h]; decide)
theorem own_lcgt {a b : Int64} (h : b < a) : (0 : Int32) < lcmpW a b := by unfold lcmpW; rw [if_pos h]; decide
theorem own_lcngt {a b : Int64} (h : ¬ b < a) : ¬ (0 : Int32) < lcmpW a b := by unfold lcmpW; rw [if_neg h]; split <;> decide
theorem own_lclt {a b : Int64} (h : a < b) : lcmpW a b < (0 : Int32) := by
  have h1 : ¬ b < a := fun q => by rw [Int64.lt_iff_toInt_lt] at h q; omega
  have h2 : ¬ a = b := fun q => by subst q; rw [Int64.lt_iff_toInt_lt] at h; omega
  unfold lcmpW; rw [if_neg h1, if_neg h2]; decide
theorem own_lcnlt {a b : Int64} (h : ¬ a < b) : ¬ lcmpW a b < (0 : Int32) := by
  unfold lcmpW; split
  · decide
  · split
    · decide
    · rename_i h1 h2; exact absurd (Int64.toInt_inj.mp (by simp only [gt_iff_lt, Int64.lt_iff_toInt_lt] at h h1; omega)) h2
def own_FREE : Int64 := -9223372036854775808
def own_upd (f : Nat → Int64) (i : Nat) (v : Int64) : Nat → Int64 := fun j => if j = i then v else f j
theorem own_updE (f : Nat → Int64) (i : Nat) (v : Int64) : own_upd f i v i = v := if_pos rfl
theorem own_updN {f : Nat → Int64} {i j : Nat} {v : Int64} (h : j ≠ i) : own_upd f i v j = f j := if_neg h
def own_Idx (K : Nat → Int64) (n h : Nat) (k : Int64) (i : Nat) : Prop :=
  ∃ d, i = (h + d) % n ∧ (∀ e, e < d → K ((h + e) % n) ≠ own_FREE ∧ K ((h + e) % n) ≠ k) ∧ (K i = k ∨ K i = own_FREE)
theorem own_idx_uniq {K : Nat → Int64} {n h : Nat} {k : Int64} {i j : Nat} (a : own_Idx K n h k i) (b : own_Idx K n h k j) : i = j := by
  obtain ⟨d, e1, p, q⟩ := a
  obtain ⟨d', e2, p', q'⟩ := b
  rcases Nat.lt_trichotomy d d' with h1 | h1 | h1
  · have r := p' d h1
    rw [← e1] at r
    rcases q with q | q
    · exact absurd q r.2
    · exact absurd q r.1
  · rw [e1, e2, h1]
  · have r := p d' h1
    rw [← e2] at r
    rcases q' with q | q
    · exact absurd q r.2
    · exact absurd q r.1
theorem own_idx_upd {K : Nat → Int64} {n h : Nat} {k k' : Int64} {i j : Nat} (a : own_Idx K n h k j) (hi : K i = own_FREE) (hj : own_upd K i k' j = k ∨ own_upd K i k' j = own_FREE) : own_Idx (own_upd K i k') n h k j := by
  obtain ⟨d, e1, p, -⟩ := a
  refine ⟨d, e1, fun e he => ?_, hj⟩
  have r := p e he
  have : (h + e) % n ≠ i := fun q => r.1 (by rw [q]; exact hi)
  rw [own_updN this]; exact r
def own_cnt (K : Nat → Int64) : Nat → Nat
  | 0 => 0
  | n + 1 => own_cnt K n + (if K n = own_FREE then 0 else 1)
theorem own_cnt_congr {K K' : Nat → Int64} {n : Nat} (h : ∀ i, i < n → K i = K' i) : own_cnt K n = own_cnt K' n := by
  induction n with
  | zero => rfl
  | succ n ih => simp only [own_cnt]; rw [ih fun i hi => h i (by omega), h n (by omega)]
theorem own_cnt_free {K : Nat → Int64} {n : Nat} (h : own_cnt K n < n) : ∃ i, i < n ∧ K i = own_FREE := by
  induction n with
  | zero => omega
  | succ n ih =>
    by_cases q : K n = own_FREE
    · exact ⟨n, by omega, q⟩
    · simp only [own_cnt, if_neg q] at h
      obtain ⟨i, a, b⟩ := ih (by omega)
      exact ⟨i, by omega, b⟩
theorem own_cnt_upd {K : Nat → Int64} {n i : Nat} {k : Int64} (hi : i < n) (hf : K i = own_FREE) (hk : k ≠ own_FREE) : own_cnt (own_upd K i k) n = own_cnt K n + 1 := by
  induction n with
  | zero => omega
  | succ n ih =>
    by_cases q : i = n
    · subst q
      have e : own_cnt (own_upd K i k) i = own_cnt K i := own_cnt_congr fun j hj => own_updN (by omega)
      simp only [own_cnt, e, own_updE, if_neg hk, if_pos hf] <;> omega
    · have e := ih (by omega)
      simp only [own_cnt, e, own_updN (show n ≠ i by omega)] <;> omega
theorem own_cnt_le (K : Nat → Int64) (n : Nat) : own_cnt K n ≤ n := by
  induction n with
  | zero => exact Nat.le_refl 0
  | succ n ih => simp only [own_cnt]; split <;> omega
theorem own_cnt_mono (K : Nat → Int64) {i n : Nat} (h : i ≤ n) : own_cnt K i ≤ own_cnt K n := by
  induction n with
  | zero => rw [Nat.le_zero.mp h]; exact Nat.le_refl _
  | succ n ih =>
    by_cases q : i = n + 1
    · subst q; exact Nat.le_refl _
    · have := ih (by omega); simp only [own_cnt]; omega
/-- the slots' keys K and sums W (n slots) hold the sums m over the keys D -/
def own_Rep (K W : Nat → Int64) (n : Nat) (hs : Int64 → Nat) (D : Int64 → Prop) (m : Int64 → Int64) (sz : Nat) : Prop :=
  (∀ i, i < n → K i ≠ own_FREE → own_Idx K n (hs (K i)) (K i) i ∧ D (K i) ∧ W i = m (K i)) ∧ (∀ k, D k → k ≠ own_FREE ∧ ∃ i, i < n ∧ K i = k) ∧ (∀ k, ¬ D k → m k = 0) ∧ own_cnt K n = sz
theorem own_rep_empty {K W : Nat → Int64} {n : Nat} {hs : Int64 → Nat} (h : ∀ i, i < n → K i = own_FREE) : own_Rep K W n hs (fun _ => False) (fun _ => 0) 0 := by
  refine ⟨fun i hi q => absurd (h i hi) q, fun k q => q.elim, fun _ _ => rfl, ?_⟩
  induction n with
  | zero => rfl
  | succ n ih => simp only [own_cnt, h n (Nat.lt_succ_self n), if_pos, ih fun i hi => h i (by omega)]
section OwnRep
variable {K W : Nat → Int64} {n : Nat} {hs : Int64 → Nat} {D : Int64 → Prop} {m : Int64 → Int64} {sz : Nat} {k : Int64} {i : Nat}
theorem own_rep_inj (R : own_Rep K W n hs D m sz) {j : Nat} (hi : i < n) (hj : j < n) (e : K i = K j) (hk : K i ≠ own_FREE) : i = j := by
  have a := (R.1 i hi hk).1
  have b := (R.1 j hj (e ▸ hk)).1
  rw [← e] at b
  exact own_idx_uniq a b
theorem own_rep_none (R : own_Rep K W n hs D m sz) (I : own_Idx K n (hs k) k i) (hf : K i = own_FREE) : ¬ D k := fun q => by
  obtain ⟨hk, j, hj, e⟩ := R.2.1 k q
  have b := (R.1 j hj (e ▸ hk)).1
  rw [e] at b
  have := own_idx_uniq I b
  subst this
  exact hk (e.symm.trans hf)
theorem own_rep_get (R : own_Rep K W n hs D m sz) (hi : i < n) (hk : k ≠ own_FREE) (I : own_Idx K n (hs k) k i) : (if K i = k then W i else 0) = m k := by
  by_cases q : K i = k
  · rw [if_pos q, (R.1 i hi (q ▸ hk)).2.2, q]
  · rw [if_neg q]
    obtain ⟨-, -, -, h | h⟩ := id I
    · exact absurd h q
    · exact (R.2.2.1 k (own_rep_none R I h)).symm
theorem own_rep_dom (R : own_Rep K W n hs D m sz) (hi : i < n) (hk : k ≠ own_FREE) (q : K i = k) : D k ∧ W i = m k := by
  have := (R.1 i hi (q ▸ hk)).2
  rw [q] at this; exact this
theorem own_rep_found (R : own_Rep K W n hs D m sz) (hi : i < n) (hk : k ≠ own_FREE) (q : K i = k) (v : Int64) : own_Rep K (own_upd W i v) n hs D (fun x => if x = k then v else m x) sz := by
  refine ⟨fun j hj hn => ?_, R.2.1, fun x hx => ?_, R.2.2.2⟩
  · obtain ⟨a, b, c⟩ := R.1 j hj hn
    refine ⟨a, b, ?_⟩
    show own_upd W i v j = (if K j = k then v else m (K j))
    by_cases e : j = i
    · subst e; rw [own_updE, if_pos q]
    · have z1 : ¬ K j = k := fun z => e (own_rep_inj R hj hi (z.trans q.symm) hn)
      rw [own_updN e, if_neg z1]; exact c
  · show (if x = k then v else m x) = 0
    have z1 : ¬ x = k := fun z => hx (by rw [z]; exact (own_rep_dom R hi hk q).1)
    rw [if_neg z1]; exact R.2.2.1 x hx
theorem own_rep_put (R : own_Rep K W n hs D m sz) (hi : i < n) (hk : k ≠ own_FREE) (I : own_Idx K n (hs k) k i) (hf : K i = own_FREE) (v : Int64) : own_Rep (own_upd K i k) (own_upd W i v) n hs (fun x => D x ∨ x = k) (fun x => if x = k then v else m x) (sz + 1) := by
  have hD := own_rep_none R I hf
  refine ⟨fun j hj hn => ?_, fun x hx => ?_, fun x hx => ?_, ?_⟩
  · by_cases e : j = i
    · subst e
      rw [own_updE, own_updE]
      exact ⟨own_idx_upd I hf (Or.inl (own_updE _ _ _)), Or.inr rfl, (if_pos rfl).symm⟩
    · rw [own_updN e] at hn ⊢
      obtain ⟨a, b, c⟩ := R.1 j hj hn
      refine ⟨own_idx_upd a hf (Or.inl (own_updN e)), Or.inl b, ?_⟩
      have z1 : ¬ K j = k := fun z => hD (by rw [← z]; exact b)
      show own_upd W i v j = (if K j = k then v else m (K j))
      rw [own_updN e, if_neg z1]; exact c
  · rcases hx with hx | rfl
    · obtain ⟨a, j, b, c⟩ := R.2.1 x hx
      refine ⟨a, j, b, ?_⟩
      rw [own_updN fun z => a (by rw [← c, z]; exact hf)]; exact c
    · exact ⟨hk, i, hi, own_updE _ _ _⟩
  · show (if x = k then v else m x) = 0
    rw [if_neg fun z => hx (Or.inr z)]; exact R.2.2.1 x fun z => hx (Or.inl z)
  · rw [own_cnt_upd hi hf hk, R.2.2.2]
theorem own_rep_eq {D' : Int64 → Prop} {m' : Int64 → Int64} {sz' : Nat} (R : own_Rep K W n hs D m sz) (h1 : ∀ k, D k ↔ D' k) (h2 : ∀ k, m k = m' k) (h3 : sz = sz') : own_Rep K W n hs D' m' sz' := by
  have e1 : D = D' := funext fun k => propext (h1 k)
  have e2 : m = m' := funext h2
  subst e1 e2 h3; exact R
end OwnRep
/-- what has been copied of the first i slots -/
def own_Part (K : Nat → Int64) (i : Nat) (k : Int64) : Prop := k ≠ own_FREE ∧ ∃ j, j < i ∧ K j = k
open Classical in
theorem own_part_skip {K K2 W2 : Nat → Int64} {n2 : Nat} {hs2 : Int64 → Nat} {m : Int64 → Int64} {i : Nat} (R : own_Rep K2 W2 n2 hs2 (own_Part K i) (fun x => if own_Part K i x then m x else 0) (own_cnt K i)) (h : K i = own_FREE) :
    own_Rep K2 W2 n2 hs2 (own_Part K (i + 1)) (fun x => if own_Part K (i + 1) x then m x else 0) (own_cnt K (i + 1)) := by
  have e : ∀ x, own_Part K i x ↔ own_Part K (i + 1) x := fun x => ⟨fun ⟨a, j, b, c⟩ => ⟨a, j, by omega, c⟩, fun ⟨a, j, b, c⟩ => ⟨a, j, by
    by_cases z : j = i
    · subst z; exact absurd (c.symm.trans h) a
    · omega, c⟩⟩
  refine own_rep_eq R e (fun x => ?_) (by simp only [own_cnt, if_pos h]; omega)
  by_cases q : own_Part K i x
  · rw [if_pos q, if_pos ((e x).mp q)]
  · rw [if_neg q, if_neg fun z => q ((e x).mpr z)]
open Classical in
theorem own_part_put {K W : Nat → Int64} {n : Nat} {hs : Int64 → Nat} {D : Int64 → Prop} {m : Int64 → Int64} {sz : Nat} {K2 W2 : Nat → Int64} {n2 : Nat} {hs2 : Int64 → Nat} {i j : Nat} (R0 : own_Rep K W n hs D m sz) (hi : i < n) (h : K i ≠ own_FREE)
    (R : own_Rep K2 W2 n2 hs2 (own_Part K i) (fun x => if own_Part K i x then m x else 0) (own_cnt K i)) (hj : j < n2) (I : own_Idx K2 n2 (hs2 (K i)) (K i) j) :
    K2 j = own_FREE ∧ own_Rep (own_upd K2 j (K i)) (own_upd W2 j (W i)) n2 hs2 (own_Part K (i + 1)) (fun x => if own_Part K (i + 1) x then m x else 0) (own_cnt K (i + 1)) := by
  have hf : K2 j = own_FREE := by
    obtain ⟨-, -, -, q | q⟩ := id I
    · have := (own_rep_dom R hj h q).1
      obtain ⟨-, r, b, c⟩ := this
      have := own_rep_inj R0 (Nat.lt_trans b hi) hi c (c ▸ h)
      omega
    · exact q
  refine ⟨hf, ?_⟩
  have P := own_rep_put R hj h I hf (W i)
  refine own_rep_eq P (fun x => ?_) (fun x => ?_) (by simp only [own_cnt, if_neg h])
  · constructor
    · rintro (⟨a, r, b, c⟩ | rfl)
      · exact ⟨a, r, by omega, c⟩
      · exact ⟨h, i, by omega, rfl⟩
    · rintro ⟨a, r, b, c⟩
      by_cases z : r = i
      · subst z; exact Or.inr c.symm
      · exact Or.inl ⟨a, r, by omega, c⟩
  · show (if x = K i then W i else if own_Part K i x then m x else 0) = if own_Part K (i + 1) x then m x else 0
    by_cases z : x = K i
    · subst z
      have z1 : own_Part K (i + 1) (K i) := ⟨h, i, Nat.lt_succ_self i, rfl⟩
      rw [if_pos rfl, if_pos z1]
      exact (R0.1 i hi h).2.2
    · rw [if_neg z]
      by_cases q : own_Part K i x
      · have z1 : own_Part K (i + 1) x := by obtain ⟨a, r, b, c⟩ := q; exact ⟨a, r, by omega, c⟩
        rw [if_pos q, if_pos z1]
      · have z1 : ¬ own_Part K (i + 1) x := fun ⟨a, r, b, c⟩ => q ⟨a, r, by
          by_cases y : r = i
          · subst y; exact absurd c.symm z
          · omega, c⟩
        rw [if_neg q, if_neg z1]
open Classical in
theorem own_part_all {K W : Nat → Int64} {n : Nat} {hs : Int64 → Nat} {D : Int64 → Prop} {m : Int64 → Int64} {sz : Nat} {K2 W2 : Nat → Int64} {n2 : Nat} {hs2 : Int64 → Nat} (R0 : own_Rep K W n hs D m sz)
    (R : own_Rep K2 W2 n2 hs2 (own_Part K n) (fun x => if own_Part K n x then m x else 0) (own_cnt K n)) : own_Rep K2 W2 n2 hs2 D m sz := by
  have e : ∀ x, own_Part K n x ↔ D x := fun x => ⟨fun ⟨a, j, b, c⟩ => (own_rep_dom R0 b a c).1, fun q => by obtain ⟨a, j, b, c⟩ := R0.2.1 x q; exact ⟨a, j, b, c⟩⟩
  refine own_rep_eq R e (fun x => ?_) R0.2.2.2
  by_cases q : own_Part K n x
  · rw [if_pos q]
  · rw [if_neg q, R0.2.2.1 x fun z => q ((e x).mpr z)]
open Classical in
theorem own_part_none {K K2 W2 : Nat → Int64} {n2 : Nat} {hs2 : Int64 → Nat} {m : Int64 → Int64} (h : ∀ i, i < n2 → K2 i = own_FREE) : own_Rep K2 W2 n2 hs2 (own_Part K 0) (fun x => if own_Part K 0 x then m x else 0) (own_cnt K 0) := by
  refine own_rep_eq (own_rep_empty h) (fun x => ⟨fun q => q.elim, fun ⟨_, j, b, _⟩ => by omega⟩) (fun x => ?_) rfl
  have z1 : ¬ own_Part K 0 x := fun ⟨_, j, b, _⟩ => by omega
  rw [if_neg z1]
def own_K (arr : List Int64) (i : Nat) : Int64 := arr.getD (2 * i) 0
def own_W (arr : List Int64) (i : Nat) : Int64 := arr.getD (2 * i + 1) 0
def own_p (i : Nat) : Int32 := Int32.ofNat (2 * i)
def own_hs (n : Nat) (k : Int64) : Nat := (k * (-7046029254386353131)).toUInt64.toNat / (if n = 4 then 2 ^ 62 else 2 ^ 61)
def own_new4 : List Int64 := [-9223372036854775808, 0, -9223372036854775808, 0, -9223372036854775808, 0, -9223372036854775808, 0]
def own_new8 : List Int64 := [-9223372036854775808, 0, -9223372036854775808, 0, -9223372036854775808, 0, -9223372036854775808, 0, -9223372036854775808, 0, -9223372036854775808, 0, -9223372036854775808, 0, -9223372036854775808, 0]
theorem own_new4K : ∀ i, i < 4 → own_K own_new4 i = own_FREE := fun i hi => (by decide +kernel : ∀ i : Fin 4, own_K own_new4 i.1 = own_FREE) ⟨i, hi⟩
theorem own_new8K : ∀ i, i < 8 → own_K own_new8 i = own_FREE := fun i hi => (by decide +kernel : ∀ i : Fin 8, own_K own_new8 i.1 = own_FREE) ⟨i, hi⟩
theorem own_ld (arr : List Int64) (j : Nat) : (arr.map Value.long).getD j (.long (0 : Int64)) = .long (arr.getD j 0) := by
  simp only [List.getD_eq_getElem?_getD, List.getElem?_map]; cases arr[j]? <;> rfl
theorem own_hn {n : Nat} {sh : Int32} (h : (n = 4 ∧ sh = 62) ∨ (n = 8 ∧ sh = 61)) : n = 4 ∨ n = 8 := h.elim (fun q => Or.inl q.1) fun q => Or.inr q.1
theorem own_n0 {n : Nat} (h : n = 4 ∨ n = 8) : 0 < n := by omega
theorem own_lt8 {i n : Nat} (h : i < n) (hn : n = 4 ∨ n = 8) : i < 8 := by omega
theorem own_pN {i : Nat} (h : i < 8) : (own_p i).toNatClampNeg = 2 * i := (by decide +kernel : ∀ i : Fin 8, (own_p i.1).toNatClampNeg = 2 * i.1) ⟨i, h⟩
theorem own_p0 {i : Nat} (h : i < 8) : ¬ own_p i < 0 := (by decide +kernel : ∀ i : Fin 8, ¬ own_p i.1 < 0) ⟨i, h⟩
theorem own_qN {i : Nat} (h : i < 8) : (own_p i + (1 : Int32)).toNatClampNeg = 2 * i + 1 := (by decide +kernel : ∀ i : Fin 8, (own_p i.1 + (1 : Int32)).toNatClampNeg = 2 * i.1 + 1) ⟨i, h⟩
theorem own_q0 {i : Nat} (h : i < 8) : ¬ own_p i + (1 : Int32) < 0 := (by decide +kernel : ∀ i : Fin 8, ¬ own_p i.1 + (1 : Int32) < 0) ⟨i, h⟩
theorem own_plt {i n : Nat} (h : i < n) (hn : n = 4 ∨ n = 8) : own_p i < Int32.ofNat (2 * n) := by
  rcases hn with rfl | rfl
  · exact (by decide +kernel : ∀ i : Fin 4, own_p i.1 < Int32.ofNat (2 * 4)) ⟨i, h⟩
  · exact (by decide +kernel : ∀ i : Fin 8, own_p i.1 < Int32.ofNat (2 * 8)) ⟨i, h⟩
theorem own_qlt {i n : Nat} (h : i < n) (hn : n = 4 ∨ n = 8) : own_p i + (1 : Int32) < Int32.ofNat (2 * n) := by
  rcases hn with rfl | rfl
  · exact (by decide +kernel : ∀ i : Fin 4, own_p i.1 + (1 : Int32) < Int32.ofNat (2 * 4)) ⟨i, h⟩
  · exact (by decide +kernel : ∀ i : Fin 8, own_p i.1 + (1 : Int32) < Int32.ofNat (2 * 8)) ⟨i, h⟩
theorem own_pnext {i n : Nat} (h : i < n) (hn : n = 4 ∨ n = 8) : ((own_p i + (2 : Int32)) &&& (Int32.ofNat (2 * n) - (1 : Int32))) = own_p ((i + 1) % n) := by
  rcases hn with rfl | rfl
  · exact (by decide +kernel : ∀ i : Fin 4, ((own_p i.1 + (2 : Int32)) &&& (Int32.ofNat (2 * 4) - (1 : Int32))) = own_p ((i.1 + 1) % 4)) ⟨i, h⟩
  · exact (by decide +kernel : ∀ i : Fin 8, ((own_p i.1 + (2 : Int32)) &&& (Int32.ofNat (2 * 8) - (1 : Int32))) = own_p ((i.1 + 1) % 8)) ⟨i, h⟩
theorem own_ldK (arr : List Int64) {i : Nat} (h : i < 8) : (arr.map Value.long).getD (own_p i).toNatClampNeg (.long (0 : Int64)) = .long (own_K arr i) := by rw [own_pN h]; exact own_ld arr _
theorem own_ldW (arr : List Int64) {i : Nat} (h : i < 8) : (arr.map Value.long).getD (own_p i + (1 : Int32)).toNatClampNeg (.long (0 : Int64)) = .long (own_W arr i) := by rw [own_qN h]; exact own_ld arr _
theorem own_mod1 {i f n : Nat} : (i + (f + 1)) % n = ((i + 1) % n + f) % n := by rw [Nat.mod_add_mod]; congr 1; omega
theorem own_idx_step {K : Nat → Int64} {n i i' : Nat} {k : Int64} (hi : i < n) (h1 : ¬ K i = k) (h2 : ¬ K i = own_FREE) (P : own_Idx K n ((i + 1) % n) k i') : own_Idx K n i k i' := by
  obtain ⟨d, e1, p, q⟩ := P
  refine ⟨d + 1, by rw [own_mod1]; exact e1, fun e he => ?_, q⟩
  cases e with
  | zero => rw [Nat.add_zero, Nat.mod_eq_of_lt hi]; exact ⟨h2, h1⟩
  | succ e => rw [own_mod1]; exact p e (by omega)
theorem own_hslt (k : Int64) {n : Nat} (hn : n = 4 ∨ n = 8) : own_hs n k < n := by
  have h := (k * (-7046029254386353131)).toUInt64.toNat_lt
  rcases hn with rfl | rfl
  · show _ / (if 4 = 4 then 2 ^ 62 else 2 ^ 61) < 4; rw [if_pos rfl]; omega
  · show _ / (if 8 = 4 then 2 ^ 62 else 2 ^ 61) < 8; rw [if_neg (by decide)]; omega
theorem own_far {K : Nat → Int64} {n h : Nat} (hf : ∃ j, j < n ∧ K j = own_FREE) (hh : h < n) : ∃ f, K ((h + f) % n) = own_FREE := by
  obtain ⟨j, hj, e⟩ := hf
  refine ⟨j + n - h, ?_⟩
  rw [show h + (j + n - h) = j + n by omega, Nat.add_mod_right, Nat.mod_eq_of_lt hj]; exact e
theorem own_sh (y : UInt64) (h : y.toNat < 8) : (y.toInt64.toInt32 <<< ((1 : Int32) &&& 31)) = own_p y.toNat := by
  have e : y = UInt64.ofNat y.toNat := (UInt64.ofNat_toNat).symm
  rw [e, UInt64.toNat_ofNat_of_lt' (Nat.lt_trans h (by decide))]
  exact (by decide +kernel : ∀ j : Fin 8, ((UInt64.ofNat j.1).toInt64.toInt32 <<< ((1 : Int32) &&& 31)) = own_p j.1) ⟨_, h⟩
theorem own_hash (k : Int64) {n : Nat} {sh : Int32} (hns : (n = 4 ∧ sh = 62) ∨ (n = 8 ∧ sh = 61)) : (((((k * (-7046029254386353131 : Int64)).toUInt64 >>> (sh &&& 0x3f).toInt64.toUInt64).toInt64).toInt32) <<< ((1 : Int32) &&& 31)) = own_p (own_hs n k) := by
  have h := (k * (-7046029254386353131)).toUInt64.toNat_lt
  rcases hns with ⟨rfl, rfl⟩ | ⟨rfl, rfl⟩
  · have e : ((k * (-7046029254386353131 : Int64)).toUInt64 >>> ((62 : Int32) &&& 0x3f).toInt64.toUInt64).toNat = own_hs 4 k := by
      rw [show ((62 : Int32) &&& 0x3f).toInt64.toUInt64 = (62 : UInt64) from by decide, UInt64.toNat_shiftRight, Nat.shiftRight_eq_div_pow]
      show _ / 2 ^ 62 = _ / (if 4 = 4 then 2 ^ 62 else 2 ^ 61); rw [if_pos rfl]
    rw [← e]; exact own_sh _ (by rw [e]; have := own_hslt k (n := 4) (Or.inl rfl); omega)
  · have e : ((k * (-7046029254386353131 : Int64)).toUInt64 >>> ((61 : Int32) &&& 0x3f).toInt64.toUInt64).toNat = own_hs 8 k := by
      rw [show ((61 : Int32) &&& 0x3f).toInt64.toUInt64 = (61 : UInt64) from by decide, UInt64.toNat_shiftRight, Nat.shiftRight_eq_div_pow]
      show _ / 2 ^ 61 = _ / (if 8 = 4 then 2 ^ 62 else 2 ^ 61); rw [if_neg (by decide)]
    rw [← e]; exact own_sh _ (by rw [e]; exact own_hslt k (n := 8) (Or.inr rfl))
theorem own_Kins {arr : List Int64} {i n : Nat} {k v : Int64} (hl : arr.length = 2 * n) (hi : i < n) : own_K ((arr.set (2 * i) k).set (2 * i + 1) v) = own_upd (own_K arr) i k := funext fun j => by
  unfold own_K own_upd
  simp only [List.getD_eq_getElem?_getD]
  rw [List.getElem?_set_ne (by omega)]
  by_cases q : j = i
  · subst q; rw [if_pos rfl, List.getElem?_set_self (by omega)]; rfl
  · rw [if_neg q, List.getElem?_set_ne (by omega)]
theorem own_Wins {arr : List Int64} {i n : Nat} {k v : Int64} (hl : arr.length = 2 * n) (hi : i < n) : own_W ((arr.set (2 * i) k).set (2 * i + 1) v) = own_upd (own_W arr) i v := funext fun j => by
  unfold own_W own_upd
  simp only [List.getD_eq_getElem?_getD]
  by_cases q : j = i
  · subst q; rw [if_pos rfl, List.getElem?_set_self (by rw [List.length_set]; omega)]; rfl
  · rw [if_neg q, List.getElem?_set_ne (by omega), List.getElem?_set_ne (by omega)]
theorem own_Kset {arr : List Int64} {i : Nat} {v : Int64} : own_K (arr.set (2 * i + 1) v) = own_K arr := funext fun j => by
  unfold own_K; simp only [List.getD_eq_getElem?_getD]; rw [List.getElem?_set_ne (by omega)]
theorem own_Wset {arr : List Int64} {i n : Nat} {v : Int64} (hl : arr.length = 2 * n) (hi : i < n) : own_W (arr.set (2 * i + 1) v) = own_upd (own_W arr) i v := funext fun j => by
  unfold own_W own_upd
  simp only [List.getD_eq_getElem?_getD]
  by_cases q : j = i
  · subst q; rw [if_pos rfl, List.getElem?_set_self (by omega)]; rfl
  · rw [if_neg q, List.getElem?_set_ne (by omega)]
theorem ne_arrV {Z : State} {h : Heap} {t a : Addr} {C : String} {a0 : Array Value} {n : Nat} {k : ClassId} {ty : FieldType} {z : Int32} {vs : List Value} {d : Value} (E : Exa Z h t C) (wi : (Jvm.Cond.instantiable C n).before a0 Z = true) (A : Arv Z h a k ty z vs d) : t ≠ a := by
  obtain ⟨c, Ar, -⟩ := A; exact ne_arr E wi Ar

theorem d8_0 : decode prog_19_method_7_code 0 = .ok (.lload_n 0, 1) := by decide +kernel
theorem d8_1 : decode prog_19_method_7_code 1 = .ok (.ldc2_w 18, 3) := by decide +kernel
theorem d8_4 : decode prog_19_method_7_code 4 = .ok (.lcmp, 1) := by decide +kernel
theorem d8_5 : decode prog_19_method_7_code 5 = .ok (.ifCond .ne 13, 3) := by decide +kernel
theorem d8_18 : decode prog_19_method_7_code 18 = .ok (.lload_n 0, 1) := by decide +kernel
theorem d8_19 : decode prog_19_method_7_code 19 = .ok (.lreturn, 1) := by decide +kernel
theorem pn_8 : plainName "com/example/pricewright/pricewright/core/LongSumTable" = true := by first | (simp [plainName, overriddenIn]; done) | decide +kernel
theorem ef_rmH (m : MethodId) (q1 : Int64) : entryFrame m #[(.long q1)] 2 = mkF m 0 #[.val (.long q1), .second] [] := by first | (simp [entryFrame, mkF, argsToLocals, Value.category]; done) | rfl
def QrmH (Z : State) (q1 : Int64) (h0 : Heap) (n0 : Nat) (v : Option Value) (h : Heap) (L : List Loc) : Prop := ∃ z : Int64, z = (q1) ∧ v = some (.long z) ∧ Fr n0 L ∧ h = h0
set_option maxRecDepth 65536 in
set_option maxHeartbeats 40000000 in
theorem rmH (l : Launch) (Z : State) (a0 : Array Value) (hw : ∀ d ∈ tables_1, d.before a0 Z = true) (ws : List Jvm.Cond) (q1 : Int64) (h0 : Heap) (n0 : Nat) (Z0 : n0 ≤ h0.size) (hk : ¬ q1 = (-9223372036854775808 : Int64)) :
    MetFree l (⟨"com/example/pricewright/pricewright/core/LongSumTable", "held", "(J)J"⟩ : MethodName) (head1 (Jvm.Cond.code (⟨"com/example/pricewright/pricewright/core/LongSumTable", "held", "(J)J"⟩ : MethodName) prog_19_method_7_code 2 (some .long) :: ws) ({ frames := 0, cells := 0, slots := 0, locals := 0 } : Room)) (fun a U => a = #[(.long q1)] ∧ Z.Warmed39 U.vm ∧ U.heap = h0) (fun _ _ _ _ _ => True) (fun _ U o U' => ∃ v L, o = .returned v ∧ QrmH Z q1 h0 n0 v U'.heap L ∧ FrameEnd U o U' L ({ frames := 0, cells := 0, slots := 0, locals := 0 } : Room).cells ({ frames := 0, cells := 0, slots := 0, locals := 0 } : Room).slots) := by
  refine MetFree.of_bodySF (plainFor_of_name pn_8) hisR ?_
  intro p e s m args below meth c s₁ Bd hml0 hP hK
  obtain ⟨rfl, hZ, hh⟩ := hP
  have hx := Bd.exec
  have hby := Bd.bytes
  have hml : c.maxLocals = 2 := hml0
  have hown : s.vm.findClass "com/example/pricewright/pricewright/core/LongSumTable" = some m.cls := findClass_of_methodNamed Bd.named
  have hnm := (name_of_methodNamed Bd.named Bd.method).1
  have X0 : Stand p l e ({ frames := 0, cells := 0, slots := 0, locals := 0 } : Room) s m #[(.long q1)] below meth c s₁ [] 0 0 := Stand.of_body Bd
  have e0 : s₁.heap = h0 := by rw [← hh, Bd.state]; rfl
  have N0 := Fr.nil n0
  have pre0 : ∀ t, Steps p.tables e below (s₁.setTop (mkF m 0 #[.val (.long q1), .second] [])) t → Steps p.tables e below (s₁.setTop (entryFrame m #[(.long q1)] 2)) t := fun t k => castTop (ef_rmH m q1) k
  obtain ⟨fs, hr, hrun, hended, hW, hsame⟩ := X0.leave (v := some (.long q1)) (fun h => by rw [Bd.returns] at h; cases h) (BodyLoose.notSynchronized Bd)
  refine ⟨_, _, pre0 _ ?_, hrun, hended, _, _, rfl, ?_, ⟨_, rfl⟩, hW, hsame.mono (by decide) (by decide)⟩
  · show Steps p.tables e below (s₁.setTop (mkF m 0 #[.val (.long q1), .second] [])) _
    refine XS.lloadN X0.here hx rfl (hb hby d8_0) rfl ?_
    refine X0.ldc2Long hx hown (mvT hZ (hw _ (own_w 20 rfl))) (g := (mkF m 1 #[.val (.long q1), .second] [(.long q1)])) rfl (hb hby d8_1) _ ?_
    refine XS.lcmp X0.here hx rfl (hb hby d8_4) rfl ?_
    refine XS.ifYes X0.here hx rfl (pc0 := 5) (pc' := 18) rfl (hb hby d8_5) rfl ((if0 _ _).trans (feq (own_lcne hk)).2) (by decide) (by decide) ?_
    refine XS.lloadN X0.here hx rfl (hb hby d8_18) rfl ?_
    show Steps p.tables e below (s₁.setTop (mkF m 19 #[.val (.long q1), .second] [(.long q1)])) _
    exact X0.lreturnOut hx Bd.returns (hb hby d8_19) hr
  · show QrmH Z q1 h0 n0 _ s₁.heap _
    exact ⟨_, rfl, rfl, N0, e0⟩
theorem d23_0 : decode jdk_29_method_25_code 0 = .ok (.lload_n 0, 1) := by decide +kernel
theorem d23_1 : decode jdk_29_method_25_code 1 = .ok (.lload_n 2, 1) := by decide +kernel
theorem d23_2 : decode jdk_29_method_25_code 2 = .ok (.ladd, 1) := by decide +kernel
theorem d23_3 : decode jdk_29_method_25_code 3 = .ok (.lstore 4, 2) := by decide +kernel
theorem d23_5 : decode jdk_29_method_25_code 5 = .ok (.lload_n 0, 1) := by decide +kernel
theorem d23_6 : decode jdk_29_method_25_code 6 = .ok (.lload 4, 2) := by decide +kernel
theorem d23_8 : decode jdk_29_method_25_code 8 = .ok (.lxor, 1) := by decide +kernel
theorem d23_9 : decode jdk_29_method_25_code 9 = .ok (.lload_n 2, 1) := by decide +kernel
theorem d23_10 : decode jdk_29_method_25_code 10 = .ok (.lload 4, 2) := by decide +kernel
theorem d23_12 : decode jdk_29_method_25_code 12 = .ok (.lxor, 1) := by decide +kernel
theorem d23_13 : decode jdk_29_method_25_code 13 = .ok (.land, 1) := by decide +kernel
theorem d23_14 : decode jdk_29_method_25_code 14 = .ok (.lconst 0, 1) := by decide +kernel
theorem d23_15 : decode jdk_29_method_25_code 15 = .ok (.lcmp, 1) := by decide +kernel
theorem d23_16 : decode jdk_29_method_25_code 16 = .ok (.ifCond .ge 13, 3) := by decide +kernel
theorem d23_29 : decode jdk_29_method_25_code 29 = .ok (.lload 4, 2) := by decide +kernel
theorem d23_31 : decode jdk_29_method_25_code 31 = .ok (.lreturn, 1) := by decide +kernel
theorem ef_rmE (m : MethodId) (q1 : Int64) (q2 : Int64) : entryFrame m #[(.long q1), (.long q2)] 6 = mkF m 0 #[.val (.long q1), .second, .val (.long q2), .second, .unset, .unset] [] := by first | (simp [entryFrame, mkF, argsToLocals, Value.category]; done) | rfl
def QrmE (Z : State) (q1 : Int64) (q2 : Int64) (h0 : Heap) (n0 : Nat) (v : Option Value) (h : Heap) (L : List Loc) : Prop := ∃ z : Int64, z = (q1 + q2) ∧ v = some (.long z) ∧ Fr n0 L ∧ h = h0
set_option maxRecDepth 65536 in
set_option maxHeartbeats 40000000 in
theorem rmE (l : Launch) (Z : State) (a0 : Array Value) (hw : ∀ d ∈ tables_1, d.before a0 Z = true) (ws : List Jvm.Cond) (q1 : Int64) (q2 : Int64) (h0 : Heap) (n0 : Nat) (Z0 : n0 ≤ h0.size) (ho : ¬ ((q1 ^^^ (q1 + q2)) &&& (q2 ^^^ (q1 + q2))) < (0 : Int64)) :
    MetFree l (⟨"java/lang/Math", "addExact", "(JJ)J"⟩ : MethodName) (head1 (Jvm.Cond.code (⟨"java/lang/Math", "addExact", "(JJ)J"⟩ : MethodName) jdk_29_method_25_code 6 (some .long) :: ws) ({ frames := 0, cells := 0, slots := 0, locals := 0 } : Room)) (fun a U => a = #[(.long q1), (.long q2)] ∧ Z.Warmed39 U.vm ∧ U.heap = h0) (fun _ _ _ _ _ => True) (fun _ U o U' => ∃ v L, o = .returned v ∧ QrmE Z q1 q2 h0 n0 v U'.heap L ∧ FrameEnd U o U' L ({ frames := 0, cells := 0, slots := 0, locals := 0 } : Room).cells ({ frames := 0, cells := 0, slots := 0, locals := 0 } : Room).slots) := by
  refine MetFree.of_bodySF (Jvm.Free.JP.mathPlain rfl (by decide +kernel)) hisR ?_
  intro p e s m args below meth c s₁ Bd hml0 hP hK
  obtain ⟨rfl, hZ, hh⟩ := hP
  have hx := Bd.exec
  have hby := Bd.bytes
  have hml : c.maxLocals = 6 := hml0
  have hown : s.vm.findClass "java/lang/Math" = some m.cls := findClass_of_methodNamed Bd.named
  have hnm := (name_of_methodNamed Bd.named Bd.method).1
  have X0 : Stand p l e ({ frames := 0, cells := 0, slots := 0, locals := 0 } : Room) s m #[(.long q1), (.long q2)] below meth c s₁ [] 0 0 := Stand.of_body Bd
  have e0 : s₁.heap = h0 := by rw [← hh, Bd.state]; rfl
  have N0 := Fr.nil n0
  have pre0 : ∀ t, Steps p.tables e below (s₁.setTop (mkF m 0 #[.val (.long q1), .second, .val (.long q2), .second, .unset, .unset] [])) t → Steps p.tables e below (s₁.setTop (entryFrame m #[(.long q1), (.long q2)] 6)) t := fun t k => castTop (ef_rmE m q1 q2) k
  obtain ⟨fs, hr, hrun, hended, hW, hsame⟩ := X0.leave (v := some (.long (q1 + q2))) (fun h => by rw [Bd.returns] at h; cases h) (BodyLoose.notSynchronized Bd)
  refine ⟨_, _, pre0 _ ?_, hrun, hended, _, _, rfl, ?_, ⟨_, rfl⟩, hW, hsame.mono (by decide) (by decide)⟩
  · show Steps p.tables e below (s₁.setTop (mkF m 0 #[.val (.long q1), .second, .val (.long q2), .second, .unset, .unset] [])) _
    refine XS.lloadN X0.here hx rfl (hb hby d23_0) rfl ?_
    refine XS.lloadN X0.here hx rfl (hb hby d23_1) rfl ?_
    refine XS.ladd X0.here hx rfl (hb hby d23_2) rfl ?_
    refine XS.lstore X0.here hx rfl (hb hby d23_3) rfl (l' := #[.val (.long q1), .second, .val (.long q2), .second, .val (.long (q1 + q2)), .second]) rfl ?_
    refine XS.lloadN X0.here hx rfl (hb hby d23_5) rfl ?_
    refine XS.lload X0.here hx rfl (hb hby d23_6) rfl ?_
    refine XS.lxor X0.here hx rfl (hb hby d23_8) rfl ?_
    refine XS.lloadN X0.here hx rfl (hb hby d23_9) rfl ?_
    refine XS.lload X0.here hx rfl (hb hby d23_10) rfl ?_
    refine XS.lxor X0.here hx rfl (hb hby d23_12) rfl ?_
    refine XS.land X0.here hx rfl (hb hby d23_13) rfl ?_
    refine XS.lconst X0.here hx rfl (hb hby d23_14) ?_
    refine XS.lcmp X0.here hx rfl (hb hby d23_15) rfl ?_
    refine XS.ifYes X0.here hx rfl (pc0 := 16) (pc' := 29) rfl (hb hby d23_16) rfl ((if0 _ _).trans (flt (own_lcnlt ho)).2.1) (by decide) (by decide) ?_
    refine XS.lload X0.here hx rfl (hb hby d23_29) rfl ?_
    show Steps p.tables e below (s₁.setTop (mkF m 31 #[.val (.long q1), .second, .val (.long q2), .second, .val (.long (q1 + q2)), .second] [(.long (q1 + q2))])) _
    exact X0.lreturnOut hx Bd.returns (hb hby d23_31) hr
  · show QrmE Z q1 q2 h0 n0 _ s₁.heap _
    exact ⟨_, rfl, rfl, N0, e0⟩
theorem d6_0 : decode jdk_33_method_47_code 0 = .ok (.iload_n 0, 1) := by decide +kernel
theorem d6_1 : decode jdk_33_method_47_code 1 = .ok (.ifCond .gt 14, 3) := by decide +kernel
theorem d6_15 : decode jdk_33_method_47_code 15 = .ok (.bipush 31, 2) := by decide +kernel
theorem d6_17 : decode jdk_33_method_47_code 17 = .ok (.istore_n 1, 1) := by decide +kernel
theorem d6_18 : decode jdk_33_method_47_code 18 = .ok (.iload_n 0, 1) := by decide +kernel
theorem d6_19 : decode jdk_33_method_47_code 19 = .ok (.ldc_w 264, 3) := by decide +kernel
theorem d6_22 : decode jdk_33_method_47_code 22 = .ok (.if_icmp .lt 11, 3) := by decide +kernel
theorem d6_33 : decode jdk_33_method_47_code 33 = .ok (.iload_n 0, 1) := by decide +kernel
theorem d6_34 : decode jdk_33_method_47_code 34 = .ok (.sipush 256, 3) := by decide +kernel
theorem d6_37 : decode jdk_33_method_47_code 37 = .ok (.if_icmp .lt 11, 3) := by decide +kernel
theorem d6_48 : decode jdk_33_method_47_code 48 = .ok (.iload_n 0, 1) := by decide +kernel
theorem d6_49 : decode jdk_33_method_47_code 49 = .ok (.bipush 16, 2) := by decide +kernel
theorem d6_51 : decode jdk_33_method_47_code 51 = .ok (.if_icmp .lt 10, 3) := by decide +kernel
theorem d6_61 : decode jdk_33_method_47_code 61 = .ok (.iload_n 0, 1) := by decide +kernel
theorem d6_62 : decode jdk_33_method_47_code 62 = .ok (.iconst 4, 1) := by decide +kernel
theorem d6_63 : decode jdk_33_method_47_code 63 = .ok (.if_icmp .lt 10, 3) := by decide +kernel
theorem d6_66 : decode jdk_33_method_47_code 66 = .ok (.iinc 1 (-2), 3) := by decide +kernel
theorem d6_69 : decode jdk_33_method_47_code 69 = .ok (.iload_n 0, 1) := by decide +kernel
theorem d6_70 : decode jdk_33_method_47_code 70 = .ok (.iconst 2, 1) := by decide +kernel
theorem d6_71 : decode jdk_33_method_47_code 71 = .ok (.iushr, 1) := by decide +kernel
theorem d6_72 : decode jdk_33_method_47_code 72 = .ok (.istore_n 0, 1) := by decide +kernel
theorem d6_73 : decode jdk_33_method_47_code 73 = .ok (.iload_n 1, 1) := by decide +kernel
theorem d6_74 : decode jdk_33_method_47_code 74 = .ok (.iload_n 0, 1) := by decide +kernel
theorem d6_75 : decode jdk_33_method_47_code 75 = .ok (.iconst 1, 1) := by decide +kernel
theorem d6_76 : decode jdk_33_method_47_code 76 = .ok (.iushr, 1) := by decide +kernel
theorem d6_77 : decode jdk_33_method_47_code 77 = .ok (.isub, 1) := by decide +kernel
theorem d6_78 : decode jdk_33_method_47_code 78 = .ok (.ireturn, 1) := by decide +kernel
theorem pn_6 : plainName "java/lang/Integer" = true := by first | (simp [plainName, overriddenIn]; done) | decide +kernel
theorem ef_rmz4 (m : MethodId)  : entryFrame m #[(.int (4 : Int32))] 2 = mkF m 0 #[.val (.int (4 : Int32)), .unset] [] := by first | (simp [entryFrame, mkF, argsToLocals, Value.category]; done) | rfl
def Qrmz4 (Z : State)  (h0 : Heap) (n0 : Nat) (v : Option Value) (h : Heap) (L : List Loc) : Prop := ∃ z : Int32, z = ((29 : Int32)) ∧ v = some (.int z) ∧ Fr n0 L ∧ h = h0
set_option maxRecDepth 65536 in
set_option maxHeartbeats 40000000 in
theorem rmz4 (l : Launch) (Z : State) (a0 : Array Value) (hw : ∀ d ∈ tables_1, d.before a0 Z = true) (ws : List Jvm.Cond)  (h0 : Heap) (n0 : Nat) (Z0 : n0 ≤ h0.size) :
    MetFree l (⟨"java/lang/Integer", "numberOfLeadingZeros", "(I)I"⟩ : MethodName) (head1 (Jvm.Cond.code (⟨"java/lang/Integer", "numberOfLeadingZeros", "(I)I"⟩ : MethodName) jdk_33_method_47_code 2 (some .int) :: ws) ({ frames := 0, cells := 0, slots := 0, locals := 0 } : Room)) (fun a U => a = #[(.int (4 : Int32))] ∧ Z.Warmed39 U.vm ∧ U.heap = h0) (fun _ _ _ _ _ => True) (fun _ U o U' => ∃ v L, o = .returned v ∧ Qrmz4 Z  h0 n0 v U'.heap L ∧ FrameEnd U o U' L ({ frames := 0, cells := 0, slots := 0, locals := 0 } : Room).cells ({ frames := 0, cells := 0, slots := 0, locals := 0 } : Room).slots) := by
  refine MetFree.of_bodySF (plainFor_of_name pn_6) hisR ?_
  intro p e s m args below meth c s₁ Bd hml0 hP hK
  obtain ⟨rfl, hZ, hh⟩ := hP
  have hx := Bd.exec
  have hby := Bd.bytes
  have hml : c.maxLocals = 2 := hml0
  have hown : s.vm.findClass "java/lang/Integer" = some m.cls := findClass_of_methodNamed Bd.named
  have hnm := (name_of_methodNamed Bd.named Bd.method).1
  have X0 : Stand p l e ({ frames := 0, cells := 0, slots := 0, locals := 0 } : Room) s m #[(.int (4 : Int32))] below meth c s₁ [] 0 0 := Stand.of_body Bd
  have e0 : s₁.heap = h0 := by rw [← hh, Bd.state]; rfl
  have N0 := Fr.nil n0
  have pre0 : ∀ t, Steps p.tables e below (s₁.setTop (mkF m 0 #[.val (.int (4 : Int32)), .unset] [])) t → Steps p.tables e below (s₁.setTop (entryFrame m #[(.int (4 : Int32))] 2)) t := fun t k => castTop (ef_rmz4 m ) k
  obtain ⟨fs, hr, hrun, hended, hW, hsame⟩ := X0.leave (v := some (.int (29 : Int32))) (fun h => by rw [Bd.returns] at h; cases h) (BodyLoose.notSynchronized Bd)
  refine ⟨_, _, pre0 _ ?_, hrun, hended, _, _, rfl, ?_, ⟨_, rfl⟩, hW, hsame.mono (by decide) (by decide)⟩
  · show Steps p.tables e below (s₁.setTop (mkF m 0 #[.val (.int (4 : Int32)), .unset] [])) _
    refine XS.iloadN X0.here hx rfl (hb hby d6_0) rfl ?_
    refine XS.ifYes X0.here hx rfl (pc0 := 1) (pc' := 15) rfl (hb hby d6_1) rfl ((if0 _ _).trans (tlt (by decide)).2.2.1) (by decide) (by decide) ?_
    refine XS.bipush X0.here hx rfl (hb hby d6_15) ?_
    refine XS.istoreN X0.here hx rfl (hb hby d6_17) rfl (l' := #[.val (.int (4 : Int32)), .val (.int (31 : Int32))]) rfl ?_
    refine XS.iloadN X0.here hx rfl (hb hby d6_18) rfl ?_
    refine X0.ldcwInt hx hown (mvT hZ (hw _ (own_w 29 rfl))) (g := (mkF m 19 #[.val (.int (4 : Int32)), .val (.int (31 : Int32))] [(.int (4 : Int32))])) rfl (hb hby d6_19) _ ?_
    refine XS.icmpYes X0.here hx rfl (pc0 := 22) (pc' := 33) rfl (hb hby d6_22) rfl (tlt (by decide)).1 (by decide) (by decide) ?_
    refine XS.iloadN X0.here hx rfl (hb hby d6_33) rfl ?_
    refine XS.sipush X0.here hx rfl (hb hby d6_34) ?_
    refine XS.icmpYes X0.here hx rfl (pc0 := 37) (pc' := 48) rfl (hb hby d6_37) rfl (tlt (by decide)).1 (by decide) (by decide) ?_
    refine XS.iloadN X0.here hx rfl (hb hby d6_48) rfl ?_
    refine XS.bipush X0.here hx rfl (hb hby d6_49) ?_
    refine XS.icmpYes X0.here hx rfl (pc0 := 51) (pc' := 61) rfl (hb hby d6_51) rfl (tlt (by decide)).1 (by decide) (by decide) ?_
    refine XS.iloadN X0.here hx rfl (hb hby d6_61) rfl ?_
    refine XS.iconst X0.here hx rfl (hb hby d6_62) ?_
    refine XS.icmpNo X0.here hx rfl (hb hby d6_63) rfl (flt (by decide)).1 ?_
    refine XS.iinc X0.here hx rfl (hb hby d6_66) rfl (l' := #[.val (.int (4 : Int32)), .val (.int (29 : Int32))]) rfl ?_
    refine XS.iloadN X0.here hx rfl (hb hby d6_69) rfl ?_
    refine XS.iconst X0.here hx rfl (hb hby d6_70) ?_
    refine XS.iushr X0.here hx rfl (hb hby d6_71) rfl ?_
    refine XS.istoreN X0.here hx rfl (hb hby d6_72) rfl (l' := #[.val (.int (1 : Int32)), .val (.int (29 : Int32))]) rfl ?_
    refine XS.iloadN X0.here hx rfl (hb hby d6_73) rfl ?_
    refine XS.iloadN X0.here hx rfl (hb hby d6_74) rfl ?_
    refine XS.iconst X0.here hx rfl (hb hby d6_75) ?_
    refine XS.iushr X0.here hx rfl (hb hby d6_76) rfl ?_
    refine XS.isub X0.here hx rfl (hb hby d6_77) rfl ?_
    show Steps p.tables e below (s₁.setTop (mkF m 78 #[.val (.int (1 : Int32)), .val (.int (29 : Int32))] [(.int (29 : Int32))])) _
    exact retI X0 hx Bd.returns (hb hby d6_78) hr
  · show Qrmz4 Z  h0 n0 _ s₁.heap _
    exact ⟨_, rfl, rfl, N0, e0⟩
theorem ef_rmz8 (m : MethodId)  : entryFrame m #[(.int (8 : Int32))] 2 = mkF m 0 #[.val (.int (8 : Int32)), .unset] [] := by first | (simp [entryFrame, mkF, argsToLocals, Value.category]; done) | rfl
def Qrmz8 (Z : State)  (h0 : Heap) (n0 : Nat) (v : Option Value) (h : Heap) (L : List Loc) : Prop := ∃ z : Int32, z = ((28 : Int32)) ∧ v = some (.int z) ∧ Fr n0 L ∧ h = h0
set_option maxRecDepth 65536 in
set_option maxHeartbeats 40000000 in
theorem rmz8 (l : Launch) (Z : State) (a0 : Array Value) (hw : ∀ d ∈ tables_1, d.before a0 Z = true) (ws : List Jvm.Cond)  (h0 : Heap) (n0 : Nat) (Z0 : n0 ≤ h0.size) :
    MetFree l (⟨"java/lang/Integer", "numberOfLeadingZeros", "(I)I"⟩ : MethodName) (head1 (Jvm.Cond.code (⟨"java/lang/Integer", "numberOfLeadingZeros", "(I)I"⟩ : MethodName) jdk_33_method_47_code 2 (some .int) :: ws) ({ frames := 0, cells := 0, slots := 0, locals := 0 } : Room)) (fun a U => a = #[(.int (8 : Int32))] ∧ Z.Warmed39 U.vm ∧ U.heap = h0) (fun _ _ _ _ _ => True) (fun _ U o U' => ∃ v L, o = .returned v ∧ Qrmz8 Z  h0 n0 v U'.heap L ∧ FrameEnd U o U' L ({ frames := 0, cells := 0, slots := 0, locals := 0 } : Room).cells ({ frames := 0, cells := 0, slots := 0, locals := 0 } : Room).slots) := by
  refine MetFree.of_bodySF (plainFor_of_name pn_6) hisR ?_
  intro p e s m args below meth c s₁ Bd hml0 hP hK
  obtain ⟨rfl, hZ, hh⟩ := hP
  have hx := Bd.exec
  have hby := Bd.bytes
  have hml : c.maxLocals = 2 := hml0
  have hown : s.vm.findClass "java/lang/Integer" = some m.cls := findClass_of_methodNamed Bd.named
  have hnm := (name_of_methodNamed Bd.named Bd.method).1
  have X0 : Stand p l e ({ frames := 0, cells := 0, slots := 0, locals := 0 } : Room) s m #[(.int (8 : Int32))] below meth c s₁ [] 0 0 := Stand.of_body Bd
  have e0 : s₁.heap = h0 := by rw [← hh, Bd.state]; rfl
  have N0 := Fr.nil n0
  have pre0 : ∀ t, Steps p.tables e below (s₁.setTop (mkF m 0 #[.val (.int (8 : Int32)), .unset] [])) t → Steps p.tables e below (s₁.setTop (entryFrame m #[(.int (8 : Int32))] 2)) t := fun t k => castTop (ef_rmz8 m ) k
  obtain ⟨fs, hr, hrun, hended, hW, hsame⟩ := X0.leave (v := some (.int (28 : Int32))) (fun h => by rw [Bd.returns] at h; cases h) (BodyLoose.notSynchronized Bd)
  refine ⟨_, _, pre0 _ ?_, hrun, hended, _, _, rfl, ?_, ⟨_, rfl⟩, hW, hsame.mono (by decide) (by decide)⟩
  · show Steps p.tables e below (s₁.setTop (mkF m 0 #[.val (.int (8 : Int32)), .unset] [])) _
    refine XS.iloadN X0.here hx rfl (hb hby d6_0) rfl ?_
    refine XS.ifYes X0.here hx rfl (pc0 := 1) (pc' := 15) rfl (hb hby d6_1) rfl ((if0 _ _).trans (tlt (by decide)).2.2.1) (by decide) (by decide) ?_
    refine XS.bipush X0.here hx rfl (hb hby d6_15) ?_
    refine XS.istoreN X0.here hx rfl (hb hby d6_17) rfl (l' := #[.val (.int (8 : Int32)), .val (.int (31 : Int32))]) rfl ?_
    refine XS.iloadN X0.here hx rfl (hb hby d6_18) rfl ?_
    refine X0.ldcwInt hx hown (mvT hZ (hw _ (own_w 29 rfl))) (g := (mkF m 19 #[.val (.int (8 : Int32)), .val (.int (31 : Int32))] [(.int (8 : Int32))])) rfl (hb hby d6_19) _ ?_
    refine XS.icmpYes X0.here hx rfl (pc0 := 22) (pc' := 33) rfl (hb hby d6_22) rfl (tlt (by decide)).1 (by decide) (by decide) ?_
    refine XS.iloadN X0.here hx rfl (hb hby d6_33) rfl ?_
    refine XS.sipush X0.here hx rfl (hb hby d6_34) ?_
    refine XS.icmpYes X0.here hx rfl (pc0 := 37) (pc' := 48) rfl (hb hby d6_37) rfl (tlt (by decide)).1 (by decide) (by decide) ?_
    refine XS.iloadN X0.here hx rfl (hb hby d6_48) rfl ?_
    refine XS.bipush X0.here hx rfl (hb hby d6_49) ?_
    refine XS.icmpYes X0.here hx rfl (pc0 := 51) (pc' := 61) rfl (hb hby d6_51) rfl (tlt (by decide)).1 (by decide) (by decide) ?_
    refine XS.iloadN X0.here hx rfl (hb hby d6_61) rfl ?_
    refine XS.iconst X0.here hx rfl (hb hby d6_62) ?_
    refine XS.icmpNo X0.here hx rfl (hb hby d6_63) rfl (flt (by decide)).1 ?_
    refine XS.iinc X0.here hx rfl (hb hby d6_66) rfl (l' := #[.val (.int (8 : Int32)), .val (.int (29 : Int32))]) rfl ?_
    refine XS.iloadN X0.here hx rfl (hb hby d6_69) rfl ?_
    refine XS.iconst X0.here hx rfl (hb hby d6_70) ?_
    refine XS.iushr X0.here hx rfl (hb hby d6_71) rfl ?_
    refine XS.istoreN X0.here hx rfl (hb hby d6_72) rfl (l' := #[.val (.int (2 : Int32)), .val (.int (29 : Int32))]) rfl ?_
    refine XS.iloadN X0.here hx rfl (hb hby d6_73) rfl ?_
    refine XS.iloadN X0.here hx rfl (hb hby d6_74) rfl ?_
    refine XS.iconst X0.here hx rfl (hb hby d6_75) ?_
    refine XS.iushr X0.here hx rfl (hb hby d6_76) rfl ?_
    refine XS.isub X0.here hx rfl (hb hby d6_77) rfl ?_
    show Steps p.tables e below (s₁.setTop (mkF m 78 #[.val (.int (2 : Int32)), .val (.int (29 : Int32))] [(.int (28 : Int32))])) _
    exact retI X0 hx Bd.returns (hb hby d6_78) hr
  · show Qrmz8 Z  h0 n0 _ s₁.heap _
    exact ⟨_, rfl, rfl, N0, e0⟩
theorem pd_0 : parseMethodDescriptor "(I)I" = some ⟨[.int], some .int⟩ := by decide +kernel
theorem d5_0 : decode jdk_35_method_48_code 0 = .ok (.lload_n 0, 1) := by decide +kernel
theorem d5_1 : decode jdk_35_method_48_code 1 = .ok (.bipush 32, 2) := by decide +kernel
theorem d5_3 : decode jdk_35_method_48_code 3 = .ok (.lushr, 1) := by decide +kernel
theorem d5_4 : decode jdk_35_method_48_code 4 = .ok (.l2i, 1) := by decide +kernel
theorem d5_5 : decode jdk_35_method_48_code 5 = .ok (.istore_n 2, 1) := by decide +kernel
theorem d5_6 : decode jdk_35_method_48_code 6 = .ok (.iload_n 2, 1) := by decide +kernel
theorem d5_7 : decode jdk_35_method_48_code 7 = .ok (.ifCond .ne 14, 3) := by decide +kernel
theorem d5_10 : decode jdk_35_method_48_code 10 = .ok (.bipush 32, 2) := by decide +kernel
theorem d5_12 : decode jdk_35_method_48_code 12 = .ok (.lload_n 0, 1) := by decide +kernel
theorem d5_13 : decode jdk_35_method_48_code 13 = .ok (.l2i, 1) := by decide +kernel
theorem d5_14 : decode jdk_35_method_48_code 14 = .ok (.invokestatic 308, 3) := by decide +kernel
theorem d5_17 : decode jdk_35_method_48_code 17 = .ok (.iadd, 1) := by decide +kernel
theorem d5_18 : decode jdk_35_method_48_code 18 = .ok (.goto 7, 3) := by decide +kernel
theorem d5_25 : decode jdk_35_method_48_code 25 = .ok (.ireturn, 1) := by decide +kernel
theorem pn_5 : plainName "java/lang/Long" = true := by first | (simp [plainName, overriddenIn]; done) | decide +kernel
theorem ef_rmZ4 (m : MethodId)  : entryFrame m #[(.long (4 : Int64))] 3 = mkF m 0 #[.val (.long (4 : Int64)), .second, .unset] [] := by first | (simp [entryFrame, mkF, argsToLocals, Value.category]; done) | rfl
def QrmZ4 (Z : State)  (h0 : Heap) (n0 : Nat) (v : Option Value) (h : Heap) (L : List Loc) : Prop := ∃ z : Int32, z = ((61 : Int32)) ∧ v = some (.int z) ∧ Fr n0 L ∧ h = h0
set_option maxRecDepth 65536 in
set_option maxHeartbeats 40000000 in
theorem rmZ4 (l : Launch) (Z : State) (a0 : Array Value) (hw : ∀ d ∈ tables_1, d.before a0 Z = true) (ws : List Jvm.Cond)  (h0 : Heap) (n0 : Nat) (Z0 : n0 ≤ h0.size) :
    MetFree l (⟨"java/lang/Long", "numberOfLeadingZeros", "(J)I"⟩ : MethodName) (head1 (Jvm.Cond.code (⟨"java/lang/Long", "numberOfLeadingZeros", "(J)I"⟩ : MethodName) jdk_35_method_48_code 3 (some .int) :: ws) ({ frames := 1, cells := 0, slots := 0, locals := 14 } : Room)) (fun a U => a = #[(.long (4 : Int64))] ∧ Z.Warmed39 U.vm ∧ U.heap = h0) (fun _ _ _ _ _ => True) (fun _ U o U' => ∃ v L, o = .returned v ∧ QrmZ4 Z  h0 n0 v U'.heap L ∧ FrameEnd U o U' L ({ frames := 1, cells := 0, slots := 0, locals := 14 } : Room).cells ({ frames := 1, cells := 0, slots := 0, locals := 14 } : Room).slots) := by
  refine MetFree.of_bodySF (plainFor_of_name pn_5) hisR ?_
  intro p e s m args below meth c s₁ Bd hml0 hP hK
  obtain ⟨rfl, hZ, hh⟩ := hP
  have hx := Bd.exec
  have hby := Bd.bytes
  have hml : c.maxLocals = 3 := hml0
  have hown : s.vm.findClass "java/lang/Long" = some m.cls := findClass_of_methodNamed Bd.named
  have hnm := (name_of_methodNamed Bd.named Bd.method).1
  have X0 : Stand p l e ({ frames := 1, cells := 0, slots := 0, locals := 14 } : Room) s m #[(.long (4 : Int64))] below meth c s₁ [] 0 0 := Stand.of_body Bd
  have e0 : s₁.heap = h0 := by rw [← hh, Bd.state]; rfl
  have N0 := Fr.nil n0
  have pre0 : ∀ t, Steps p.tables e below (s₁.setTop (mkF m 0 #[.val (.long (4 : Int64)), .second, .unset] [])) t → Steps p.tables e below (s₁.setTop (entryFrame m #[(.long (4 : Int64))] 3)) t := fun t k => castTop (ef_rmZ4 m ) k
  obtain ⟨_, _, ⟨T1, Lq1, kq1, nq1⟩, -, X1, ⟨Lc1, hQ1, lq1, yq1, zq1⟩, st1⟩ := Jvm.LawKit.callS X0 hx (y := (⟨"java/lang/Integer", "numberOfLeadingZeros", "(I)I"⟩ : MethodName)) hown (mvT hZ (hw _ (own_w 25 rfl))) (mvT hZ (hw _ (own_w 26 rfl))) (mvT hZ (hw _ (own_w 27 rfl))) (mvT hZ (hw _ (own_w 28 rfl))) (by decide) (backOf (W := 1) (rmz4 l Z a0 hw []   h0 n0 Z0 ) hZ (hw _ (own_w 28 rfl)) (hw _ (own_w 27 rfl)) (by decide) (by decide)) (g := (mkF m 14 #[.val (.long (4 : Int64)), .second, .val (.int (0 : Int32))] [(.int (4 : Int32)), (.int (32 : Int32))])) rfl (by rw [hml]; rfl) (argsL := [(.int (4 : Int32))]) (rest := [(.int (32 : Int32))]) (lenOf pd_0 rfl) rfl (by show 2 * 0 + _ ≤ _; exact Nat.le_of_eq rfl) (hb hby d5_14) (fun _ _ => ⟨rfl, e0, (by decide : 0 + 0 ≤ _), (by decide : 0 + 0 ≤ _)⟩)
  dsimp only [Pt.U, Pt.locs, Pt.cells, Pt.slots] at X1 lq1 yq1 zq1 st1 hQ1
  subst lq1 yq1 zq1
  obtain ⟨r1, hr1, rfl, N1q, e1⟩ := hQ1
  have N1 := Fr.app N0 N1q
  subst hr1
  obtain ⟨fs, hr, hrun, hended, hW, hsame⟩ := X1.leave (v := some (.int (61 : Int32))) (fun h => by rw [Bd.returns] at h; cases h) (BodyLoose.notSynchronized Bd)
  refine ⟨_, _, pre0 _ ?_, hrun, hended, _, _, rfl, ?_, ⟨_, rfl⟩, hW, hsame.mono (by decide) (by decide)⟩
  · show Steps p.tables e below (s₁.setTop (mkF m 0 #[.val (.long (4 : Int64)), .second, .unset] [])) _
    refine XS.lloadN X0.here hx rfl (hb hby d5_0) rfl ?_
    refine XS.bipush X0.here hx rfl (hb hby d5_1) ?_
    refine XS.lushr X0.here hx rfl (hb hby d5_3) rfl ?_
    refine XS.l2i X0.here hx rfl (hb hby d5_4) rfl ?_
    refine XS.istoreN X0.here hx rfl (hb hby d5_5) rfl (l' := #[.val (.long (4 : Int64)), .second, .val (.int (0 : Int32))]) rfl ?_
    refine XS.iloadN X0.here hx rfl (hb hby d5_6) rfl ?_
    refine XS.ifNo X0.here hx rfl (hb hby d5_7) rfl ((if0 _ _).trans (teq (by decide)).2) ?_
    refine XS.bipush X0.here hx rfl (hb hby d5_10) ?_
    refine XS.lloadN X0.here hx rfl (hb hby d5_12) rfl ?_
    refine XS.l2i X0.here hx rfl (hb hby d5_13) rfl ?_
    refine st1 _ ?_
    refine XS.iadd X1.here hx rfl (hb hby d5_17) rfl ?_
    refine XS.goto X1.here hx rfl (pc0 := 18) (pc' := 25) rfl (hb hby d5_18) (by decide) (by decide) ?_
    show Steps p.tables e below (T1.setTop (mkF m 25 #[.val (.long (4 : Int64)), .second, .val (.int (0 : Int32))] [(.int (61 : Int32))])) _
    exact retI X1 hx Bd.returns (hb hby d5_25) hr
  · show QrmZ4 Z  h0 n0 _ T1.heap _
    exact ⟨_, rfl, rfl, N1, e1⟩
theorem ef_rmZ8 (m : MethodId)  : entryFrame m #[(.long (8 : Int64))] 3 = mkF m 0 #[.val (.long (8 : Int64)), .second, .unset] [] := by first | (simp [entryFrame, mkF, argsToLocals, Value.category]; done) | rfl
def QrmZ8 (Z : State)  (h0 : Heap) (n0 : Nat) (v : Option Value) (h : Heap) (L : List Loc) : Prop := ∃ z : Int32, z = ((60 : Int32)) ∧ v = some (.int z) ∧ Fr n0 L ∧ h = h0
set_option maxRecDepth 65536 in
set_option maxHeartbeats 40000000 in
theorem rmZ8 (l : Launch) (Z : State) (a0 : Array Value) (hw : ∀ d ∈ tables_1, d.before a0 Z = true) (ws : List Jvm.Cond)  (h0 : Heap) (n0 : Nat) (Z0 : n0 ≤ h0.size) :
    MetFree l (⟨"java/lang/Long", "numberOfLeadingZeros", "(J)I"⟩ : MethodName) (head1 (Jvm.Cond.code (⟨"java/lang/Long", "numberOfLeadingZeros", "(J)I"⟩ : MethodName) jdk_35_method_48_code 3 (some .int) :: ws) ({ frames := 1, cells := 0, slots := 0, locals := 14 } : Room)) (fun a U => a = #[(.long (8 : Int64))] ∧ Z.Warmed39 U.vm ∧ U.heap = h0) (fun _ _ _ _ _ => True) (fun _ U o U' => ∃ v L, o = .returned v ∧ QrmZ8 Z  h0 n0 v U'.heap L ∧ FrameEnd U o U' L ({ frames := 1, cells := 0, slots := 0, locals := 14 } : Room).cells ({ frames := 1, cells := 0, slots := 0, locals := 14 } : Room).slots) := by
  refine MetFree.of_bodySF (plainFor_of_name pn_5) hisR ?_
  intro p e s m args below meth c s₁ Bd hml0 hP hK
  obtain ⟨rfl, hZ, hh⟩ := hP
  have hx := Bd.exec
  have hby := Bd.bytes
  have hml : c.maxLocals = 3 := hml0
  have hown : s.vm.findClass "java/lang/Long" = some m.cls := findClass_of_methodNamed Bd.named
  have hnm := (name_of_methodNamed Bd.named Bd.method).1
  have X0 : Stand p l e ({ frames := 1, cells := 0, slots := 0, locals := 14 } : Room) s m #[(.long (8 : Int64))] below meth c s₁ [] 0 0 := Stand.of_body Bd
  have e0 : s₁.heap = h0 := by rw [← hh, Bd.state]; rfl
  have N0 := Fr.nil n0
  have pre0 : ∀ t, Steps p.tables e below (s₁.setTop (mkF m 0 #[.val (.long (8 : Int64)), .second, .unset] [])) t → Steps p.tables e below (s₁.setTop (entryFrame m #[(.long (8 : Int64))] 3)) t := fun t k => castTop (ef_rmZ8 m ) k
  obtain ⟨_, _, ⟨T1, Lq1, kq1, nq1⟩, -, X1, ⟨Lc1, hQ1, lq1, yq1, zq1⟩, st1⟩ := Jvm.LawKit.callS X0 hx (y := (⟨"java/lang/Integer", "numberOfLeadingZeros", "(I)I"⟩ : MethodName)) hown (mvT hZ (hw _ (own_w 25 rfl))) (mvT hZ (hw _ (own_w 26 rfl))) (mvT hZ (hw _ (own_w 27 rfl))) (mvT hZ (hw _ (own_w 28 rfl))) (by decide) (backOf (W := 1) (rmz8 l Z a0 hw []   h0 n0 Z0 ) hZ (hw _ (own_w 28 rfl)) (hw _ (own_w 27 rfl)) (by decide) (by decide)) (g := (mkF m 14 #[.val (.long (8 : Int64)), .second, .val (.int (0 : Int32))] [(.int (8 : Int32)), (.int (32 : Int32))])) rfl (by rw [hml]; rfl) (argsL := [(.int (8 : Int32))]) (rest := [(.int (32 : Int32))]) (lenOf pd_0 rfl) rfl (by show 2 * 0 + _ ≤ _; exact Nat.le_of_eq rfl) (hb hby d5_14) (fun _ _ => ⟨rfl, e0, (by decide : 0 + 0 ≤ _), (by decide : 0 + 0 ≤ _)⟩)
  dsimp only [Pt.U, Pt.locs, Pt.cells, Pt.slots] at X1 lq1 yq1 zq1 st1 hQ1
  subst lq1 yq1 zq1
  obtain ⟨r1, hr1, rfl, N1q, e1⟩ := hQ1
  have N1 := Fr.app N0 N1q
  subst hr1
  obtain ⟨fs, hr, hrun, hended, hW, hsame⟩ := X1.leave (v := some (.int (60 : Int32))) (fun h => by rw [Bd.returns] at h; cases h) (BodyLoose.notSynchronized Bd)
  refine ⟨_, _, pre0 _ ?_, hrun, hended, _, _, rfl, ?_, ⟨_, rfl⟩, hW, hsame.mono (by decide) (by decide)⟩
  · show Steps p.tables e below (s₁.setTop (mkF m 0 #[.val (.long (8 : Int64)), .second, .unset] [])) _
    refine XS.lloadN X0.here hx rfl (hb hby d5_0) rfl ?_
    refine XS.bipush X0.here hx rfl (hb hby d5_1) ?_
    refine XS.lushr X0.here hx rfl (hb hby d5_3) rfl ?_
    refine XS.l2i X0.here hx rfl (hb hby d5_4) rfl ?_
    refine XS.istoreN X0.here hx rfl (hb hby d5_5) rfl (l' := #[.val (.long (8 : Int64)), .second, .val (.int (0 : Int32))]) rfl ?_
    refine XS.iloadN X0.here hx rfl (hb hby d5_6) rfl ?_
    refine XS.ifNo X0.here hx rfl (hb hby d5_7) rfl ((if0 _ _).trans (teq (by decide)).2) ?_
    refine XS.bipush X0.here hx rfl (hb hby d5_10) ?_
    refine XS.lloadN X0.here hx rfl (hb hby d5_12) rfl ?_
    refine XS.l2i X0.here hx rfl (hb hby d5_13) rfl ?_
    refine st1 _ ?_
    refine XS.iadd X1.here hx rfl (hb hby d5_17) rfl ?_
    refine XS.goto X1.here hx rfl (pc0 := 18) (pc' := 25) rfl (hb hby d5_18) (by decide) (by decide) ?_
    show Steps p.tables e below (T1.setTop (mkF m 25 #[.val (.long (8 : Int64)), .second, .val (.int (0 : Int32))] [(.int (60 : Int32))])) _
    exact retI X1 hx Bd.returns (hb hby d5_25) hr
  · show QrmZ8 Z  h0 n0 _ T1.heap _
    exact ⟨_, rfl, rfl, N1, e1⟩
theorem pd_1 : parseMethodDescriptor "(J)I" = some ⟨[.long], some .int⟩ := by decide +kernel
theorem d3_0 : decode prog_19_method_2_code 0 = .ok (.aload_n 0, 1) := by decide +kernel
theorem d3_1 : decode prog_19_method_2_code 1 = .ok (.invokespecial 9, 3) := by decide +kernel
theorem d3_4 : decode prog_19_method_2_code 4 = .ok (.aload_n 0, 1) := by decide +kernel
theorem d3_5 : decode prog_19_method_2_code 5 = .ok (.iconst 2, 1) := by decide +kernel
theorem d3_6 : decode prog_19_method_2_code 6 = .ok (.iload_n 1, 1) := by decide +kernel
theorem d3_7 : decode prog_19_method_2_code 7 = .ok (.imul, 1) := by decide +kernel
theorem d3_8 : decode prog_19_method_2_code 8 = .ok (.newarray .long, 2) := by decide +kernel
theorem d3_10 : decode prog_19_method_2_code 10 = .ok (.putfield 14, 3) := by decide +kernel
theorem d3_13 : decode prog_19_method_2_code 13 = .ok (.iconst 0, 1) := by decide +kernel
theorem d3_14 : decode prog_19_method_2_code 14 = .ok (.istore_n 2, 1) := by decide +kernel
theorem d3_15 : decode prog_19_method_2_code 15 = .ok (.iload_n 2, 1) := by decide +kernel
theorem d3_16 : decode prog_19_method_2_code 16 = .ok (.aload_n 0, 1) := by decide +kernel
theorem d3_17 : decode prog_19_method_2_code 17 = .ok (.getfield 14, 3) := by decide +kernel
theorem d3_20 : decode prog_19_method_2_code 20 = .ok (.arraylength, 1) := by decide +kernel
theorem d3_21 : decode prog_19_method_2_code 21 = .ok (.if_icmp .ge 18, 3) := by decide +kernel
theorem d3_24 : decode prog_19_method_2_code 24 = .ok (.aload_n 0, 1) := by decide +kernel
theorem d3_25 : decode prog_19_method_2_code 25 = .ok (.getfield 14, 3) := by decide +kernel
theorem d3_28 : decode prog_19_method_2_code 28 = .ok (.iload_n 2, 1) := by decide +kernel
theorem d3_29 : decode prog_19_method_2_code 29 = .ok (.ldc2_w 18, 3) := by decide +kernel
theorem d3_32 : decode prog_19_method_2_code 32 = .ok (.lastore, 1) := by decide +kernel
theorem d3_33 : decode prog_19_method_2_code 33 = .ok (.iinc 2 2, 3) := by decide +kernel
theorem d3_36 : decode prog_19_method_2_code 36 = .ok (.goto (-21), 3) := by decide +kernel
theorem d3_39 : decode prog_19_method_2_code 39 = .ok (.aload_n 0, 1) := by decide +kernel
theorem d3_40 : decode prog_19_method_2_code 40 = .ok (.iload_n 1, 1) := by decide +kernel
theorem d3_41 : decode prog_19_method_2_code 41 = .ok (.i2l, 1) := by decide +kernel
theorem d3_42 : decode prog_19_method_2_code 42 = .ok (.invokestatic 20, 3) := by decide +kernel
theorem d3_45 : decode prog_19_method_2_code 45 = .ok (.iconst 1, 1) := by decide +kernel
theorem d3_46 : decode prog_19_method_2_code 46 = .ok (.iadd, 1) := by decide +kernel
theorem d3_47 : decode prog_19_method_2_code 47 = .ok (.putfield 24, 3) := by decide +kernel
theorem d3_50 : decode prog_19_method_2_code 50 = .ok (.return_, 1) := by decide +kernel
theorem pn_3 : plainName "com/example/pricewright/pricewright/core/LongSumTable" = true := by first | (simp [plainName, overriddenIn]; done) | decide +kernel
theorem ef_rmI4 (m : MethodId) (a1 : Addr) : entryFrame m #[(.ref a1), (.int (4 : Int32))] 3 = mkF m 0 #[.val (.ref a1), .val (.int (4 : Int32)), .unset] [] := by first | (simp [entryFrame, mkF, argsToLocals, Value.category]; done) | rfl
def QrmI4 (Z : State) (a1 : Addr) (h0 : Heap) (n0 : Nat) (v : Option Value) (h : Heap) (L : List Loc) : Prop := v = none ∧ Fr n0 L ∧ Keep h0 h [a1] ∧ ∃ (sa : Addr) (sk : ClassId), n0 ≤ sa ∧ h0.size ≤ sa ∧ Exa Z h a1 "com/example/pricewright/pricewright/core/LongSumTable" ∧ Fld Z h a1 "com/example/pricewright/pricewright/core/LongSumTable" "slots" "[J" (.ref sa) ∧ Fld Z h a1 "com/example/pricewright/pricewright/core/LongSumTable" "shift" "I" (.int (62 : Int32)) ∧ Fld Z h a1 "com/example/pricewright/pricewright/core/LongSumTable" "size" "I" (.int (0 : Int32)) ∧ Fld Z h a1 "com/example/pricewright/pricewright/core/LongSumTable" "sorted" "[J" .null ∧ Arv Z h sa sk .long (8 : Int32) (own_new4.map Value.long) (.long (0 : Int64))
set_option maxRecDepth 65536 in
set_option maxHeartbeats 40000000 in
theorem rmI4 (l : Launch) (Z : State) (a0 : Array Value) (hw : ∀ d ∈ tables_1, d.before a0 Z = true) (ws : List Jvm.Cond) (a1 : Addr) (h0 : Heap) (n0 : Nat) (Z0 : n0 ≤ h0.size) (E : Exa Z h0 a1 "com/example/pricewright/pricewright/core/LongSumTable") (F_slots : Fld Z h0 a1 "com/example/pricewright/pricewright/core/LongSumTable" "slots" "[J" .null) (F_shift : Fld Z h0 a1 "com/example/pricewright/pricewright/core/LongSumTable" "shift" "I" (.int (0 : Int32))) (F_size : Fld Z h0 a1 "com/example/pricewright/pricewright/core/LongSumTable" "size" "I" (.int (0 : Int32))) (F_sorted : Fld Z h0 a1 "com/example/pricewright/pricewright/core/LongSumTable" "sorted" "[J" .null) (ga : n0 ≤ a1) :
    MetFree l (⟨"com/example/pricewright/pricewright/core/LongSumTable", "<init>", "(I)V"⟩ : MethodName) (head1 (Jvm.Cond.code (⟨"com/example/pricewright/pricewright/core/LongSumTable", "<init>", "(I)V"⟩ : MethodName) prog_19_method_2_code 3 none :: ws) ({ frames := 2, cells := 1, slots := 8, locals := 29 } : Room)) (fun a U => a = #[(.ref a1), (.int (4 : Int32))] ∧ Z.Warmed39 U.vm ∧ U.heap = h0) (fun _ _ _ _ _ => True) (fun _ U o U' => ∃ v L, o = .returned v ∧ QrmI4 Z a1 h0 n0 v U'.heap L ∧ FrameEnd U o U' L ({ frames := 2, cells := 1, slots := 8, locals := 29 } : Room).cells ({ frames := 2, cells := 1, slots := 8, locals := 29 } : Room).slots) := by
  refine MetFree.of_bodySF (plainFor_of_name pn_3) hisR ?_
  intro p e s m args below meth c s₁ Bd hml0 hP hK
  obtain ⟨rfl, hZ, hh⟩ := hP
  have hx := Bd.exec
  have hby := Bd.bytes
  have hml : c.maxLocals = 3 := hml0
  have hown : s.vm.findClass "com/example/pricewright/pricewright/core/LongSumTable" = some m.cls := findClass_of_methodNamed Bd.named
  have hnm := (name_of_methodNamed Bd.named Bd.method).1
  have X0 : Stand p l e ({ frames := 2, cells := 1, slots := 8, locals := 29 } : Room) s m #[(.ref a1), (.int (4 : Int32))] below meth c s₁ [] 0 0 := Stand.of_body Bd
  have e0 : s₁.heap = h0 := by rw [← hh, Bd.state]; rfl
  have N0 := Fr.nil n0
  have pre0 : ∀ t, Steps p.tables e below (s₁.setTop (mkF m 0 #[.val (.ref a1), .val (.int (4 : Int32)), .unset] [])) t → Steps p.tables e below (s₁.setTop (entryFrame m #[(.ref a1), (.int (4 : Int32))] 3)) t := fun t k => castTop (ef_rmI4 m a1) k
  obtain ⟨T1, X1, e1, st1⟩ := initO X0 hx hZ hown (hw _ (own_w 14 rfl)) (hw _ (own_w 15 rfl)) (hw _ (own_w 16 rfl)) e0 (g := (mkF m 1 #[.val (.ref a1), .val (.int (4 : Int32)), .unset] [(.ref a1)])) rfl (by rw [hml]; rfl) rfl (hb hby d3_1) (by decide) (W := 0) (by show 2 * 0 + _ ≤ _; exact Nat.le_of_eq rfl) (by decide)
  obtain ⟨T2, h2, ck2, X2, e2, E2, A2, st2⟩ := newP X1 hx hZ (hw _ (own_w 17 rfl)) e1 (g := (mkF m 8 #[.val (.ref a1), .val (.int (4 : Int32)), .unset] [(.int (8 : Int32)), (.ref a1)])) rfl (hb hby d3_8) rfl (by decide) (cap := 8) (by decide) (by decide) (by decide) (by decide)
  obtain ⟨b2o, g2⟩ : ∃ z, z = h0.size := ⟨_, rfl⟩
  have b2 : n0 ≤ b2o := Nat.le_trans Z0 (Nat.le_of_eq g2.symm)
  have bk2 : h0.size ≤ b2o := Nat.le_trans (Keep.refl h0 [a1]).1 (Nat.le_of_eq g2.symm)
  have ne3 : a1 ≠ b2o := Nat.ne_of_lt (Nat.lt_of_lt_of_le E.lt (Nat.le_of_eq g2.symm))
  rw [← g2] at A2 st2
  have Z2 : n0 ≤ h2.size := Nat.le_trans Z0 E2.1
  have K2 : Keep h0 h2 [a1] := (Keep.refl h0 [a1]).ext E2
  have V2 : Arv Z h2 b2o ck2 .long (8 : Int32) [(.long (0 : Int64)), (.long (0 : Int64)), (.long (0 : Int64)), (.long (0 : Int64)), (.long (0 : Int64)), (.long (0 : Int64)), (.long (0 : Int64)), (.long (0 : Int64))] (.long (0 : Int64)) := (Arv.new A2 (by decide)).pad (pad_rep [] (.long (0 : Int64)) 8)
  have f4 := (E.ext E2)
  have f5 := (F_slots.ext E2)
  obtain ⟨T6, h6, X6, e6, W6, st6⟩ := putF X2 hx hZ hown (host := "") (Or.inl (hw _ (own_w 18 rfl))) Via.refl e2 f5 f4 (Or.inl (hw _ (own_w 19 rfl))) (hw _ (own_w 6 rfl)) (ty := (.array .long)) (by decide) rfl rfl (g := (mkF m 10 #[.val (.ref a1), .val (.int (4 : Int32)), .unset] [(.ref b2o), (.ref a1)])) rfl rfl (hb hby d3_10)
  have N6 := Fr.snoc X6 N0 ga
  have Z6 : n0 ≤ h6.size := by rw [W6.size]; exact Z2
  have K6 : Keep h0 h6 [a1] := K2.wr W6 (Or.inl (own_w 0 rfl))
  have Fw6 := f5.same W6
  obtain ⟨T7, X7, e7, st7⟩ := getF X6 hx hZ hown (host := "") (Or.inl (hw _ (own_w 18 rfl))) Via.refl e6 Fw6 (g := (mkF m 17 #[.val (.ref a1), .val (.int (4 : Int32)), .val (.int (0 : Int32))] [(.ref a1), (.int (0 : Int32))])) rfl rfl (hb hby d3_17)
  have f8 := (V2.other W6 (Ne.symm ne3))
  obtain ⟨cl9, Ar9, qk9, Sz9, Nn9, Hh9, Gg9⟩ := id (f8)
  obtain ⟨T10, X10, e10, st10⟩ := getF X7 hx hZ hown (host := "") (Or.inl (hw _ (own_w 18 rfl))) Via.refl e7 Fw6 (g := (mkF m 25 #[.val (.ref a1), .val (.int (4 : Int32)), .val (.int (0 : Int32))] [(.ref a1)])) rfl rfl (hb hby d3_25)
  obtain ⟨cl11, Ar11, qk11, Sz11, Nn11, Hh11, Gg11⟩ := id (f8)
  have hin12 : ¬ ((0 : Int32) < 0 ∨ cl11.slots.size ≤ ((0 : Int32)).toNatClampNeg) := inb_of Sz11 ⟨by decide, by decide⟩
  obtain ⟨T12, h12, X12, e12, W12, st12⟩ := stJ X10 hx hZ e10 Ar11 (j := (0 : Int32)) hin12  (g := (mkF m 32 #[.val (.ref a1), .val (.int (4 : Int32)), .val (.int (0 : Int32))] [(.long (-9223372036854775808 : Int64)), (.int (0 : Int32)), (.ref b2o)])) rfl rfl (hb hby d3_32)
  have N12 := Fr.snoc X12 N6 b2
  have Z12 : n0 ≤ h12.size := by rw [W12.size]; exact Z6
  have K12 : Keep h0 h12 [a1] := K6.wr W12 (Or.inr bk2)
  have V12 : Arv Z h12 b2o ck2 .long (8 : Int32) [(.long (-9223372036854775808 : Int64)), (.long (0 : Int64)), (.long (0 : Int64)), (.long (0 : Int64)), (.long (0 : Int64)), (.long (0 : Int64)), (.long (0 : Int64)), (.long (0 : Int64))] (.long (0 : Int64)) := Arv.set Ar11 qk11 Sz11 Nn11 Hh11 Gg11 rfl W12 0 rfl (Nat.le_of_ble_eq_true rfl)
  have f13 := (Fw6.other W12 (Or.inl ne3))
  obtain ⟨T14, X14, e14, st14⟩ := getF X12 hx hZ hown (host := "") (Or.inl (hw _ (own_w 18 rfl))) Via.refl e12 f13 (g := (mkF m 17 #[.val (.ref a1), .val (.int (4 : Int32)), .val (.int (2 : Int32))] [(.ref a1), (.int (2 : Int32))])) rfl rfl (hb hby d3_17)
  obtain ⟨cl15, Ar15, qk15, Sz15, Nn15, Hh15, Gg15⟩ := id (V12)
  obtain ⟨T16, X16, e16, st16⟩ := getF X14 hx hZ hown (host := "") (Or.inl (hw _ (own_w 18 rfl))) Via.refl e14 f13 (g := (mkF m 25 #[.val (.ref a1), .val (.int (4 : Int32)), .val (.int (2 : Int32))] [(.ref a1)])) rfl rfl (hb hby d3_25)
  obtain ⟨cl17, Ar17, qk17, Sz17, Nn17, Hh17, Gg17⟩ := id (V12)
  have hin18 : ¬ ((2 : Int32) < 0 ∨ cl17.slots.size ≤ ((2 : Int32)).toNatClampNeg) := inb_of Sz17 ⟨by decide, by decide⟩
  obtain ⟨T18, h18, X18, e18, W18, st18⟩ := stJ X16 hx hZ e16 Ar17 (j := (2 : Int32)) hin18  (g := (mkF m 32 #[.val (.ref a1), .val (.int (4 : Int32)), .val (.int (2 : Int32))] [(.long (-9223372036854775808 : Int64)), (.int (2 : Int32)), (.ref b2o)])) rfl rfl (hb hby d3_32)
  have N18 := Fr.snoc X18 N12 b2
  have Z18 : n0 ≤ h18.size := by rw [W18.size]; exact Z12
  have K18 : Keep h0 h18 [a1] := K12.wr W18 (Or.inr bk2)
  have V18 : Arv Z h18 b2o ck2 .long (8 : Int32) [(.long (-9223372036854775808 : Int64)), (.long (0 : Int64)), (.long (-9223372036854775808 : Int64)), (.long (0 : Int64)), (.long (0 : Int64)), (.long (0 : Int64)), (.long (0 : Int64)), (.long (0 : Int64))] (.long (0 : Int64)) := Arv.set Ar17 qk17 Sz17 Nn17 Hh17 Gg17 rfl W18 2 rfl (Nat.le_of_ble_eq_true rfl)
  have f19 := (f13.other W18 (Or.inl ne3))
  obtain ⟨T20, X20, e20, st20⟩ := getF X18 hx hZ hown (host := "") (Or.inl (hw _ (own_w 18 rfl))) Via.refl e18 f19 (g := (mkF m 17 #[.val (.ref a1), .val (.int (4 : Int32)), .val (.int (4 : Int32))] [(.ref a1), (.int (4 : Int32))])) rfl rfl (hb hby d3_17)
  obtain ⟨cl21, Ar21, qk21, Sz21, Nn21, Hh21, Gg21⟩ := id (V18)
  obtain ⟨T22, X22, e22, st22⟩ := getF X20 hx hZ hown (host := "") (Or.inl (hw _ (own_w 18 rfl))) Via.refl e20 f19 (g := (mkF m 25 #[.val (.ref a1), .val (.int (4 : Int32)), .val (.int (4 : Int32))] [(.ref a1)])) rfl rfl (hb hby d3_25)
  obtain ⟨cl23, Ar23, qk23, Sz23, Nn23, Hh23, Gg23⟩ := id (V18)
  have hin24 : ¬ ((4 : Int32) < 0 ∨ cl23.slots.size ≤ ((4 : Int32)).toNatClampNeg) := inb_of Sz23 ⟨by decide, by decide⟩
  obtain ⟨T24, h24, X24, e24, W24, st24⟩ := stJ X22 hx hZ e22 Ar23 (j := (4 : Int32)) hin24  (g := (mkF m 32 #[.val (.ref a1), .val (.int (4 : Int32)), .val (.int (4 : Int32))] [(.long (-9223372036854775808 : Int64)), (.int (4 : Int32)), (.ref b2o)])) rfl rfl (hb hby d3_32)
  have N24 := Fr.snoc X24 N18 b2
  have Z24 : n0 ≤ h24.size := by rw [W24.size]; exact Z18
  have K24 : Keep h0 h24 [a1] := K18.wr W24 (Or.inr bk2)
  have V24 : Arv Z h24 b2o ck2 .long (8 : Int32) [(.long (-9223372036854775808 : Int64)), (.long (0 : Int64)), (.long (-9223372036854775808 : Int64)), (.long (0 : Int64)), (.long (-9223372036854775808 : Int64)), (.long (0 : Int64)), (.long (0 : Int64)), (.long (0 : Int64))] (.long (0 : Int64)) := Arv.set Ar23 qk23 Sz23 Nn23 Hh23 Gg23 rfl W24 4 rfl (Nat.le_of_ble_eq_true rfl)
  have f25 := (f19.other W24 (Or.inl ne3))
  obtain ⟨T26, X26, e26, st26⟩ := getF X24 hx hZ hown (host := "") (Or.inl (hw _ (own_w 18 rfl))) Via.refl e24 f25 (g := (mkF m 17 #[.val (.ref a1), .val (.int (4 : Int32)), .val (.int (6 : Int32))] [(.ref a1), (.int (6 : Int32))])) rfl rfl (hb hby d3_17)
  obtain ⟨cl27, Ar27, qk27, Sz27, Nn27, Hh27, Gg27⟩ := id (V24)
  obtain ⟨T28, X28, e28, st28⟩ := getF X26 hx hZ hown (host := "") (Or.inl (hw _ (own_w 18 rfl))) Via.refl e26 f25 (g := (mkF m 25 #[.val (.ref a1), .val (.int (4 : Int32)), .val (.int (6 : Int32))] [(.ref a1)])) rfl rfl (hb hby d3_25)
  obtain ⟨cl29, Ar29, qk29, Sz29, Nn29, Hh29, Gg29⟩ := id (V24)
  have hin30 : ¬ ((6 : Int32) < 0 ∨ cl29.slots.size ≤ ((6 : Int32)).toNatClampNeg) := inb_of Sz29 ⟨by decide, by decide⟩
  obtain ⟨T30, h30, X30, e30, W30, st30⟩ := stJ X28 hx hZ e28 Ar29 (j := (6 : Int32)) hin30  (g := (mkF m 32 #[.val (.ref a1), .val (.int (4 : Int32)), .val (.int (6 : Int32))] [(.long (-9223372036854775808 : Int64)), (.int (6 : Int32)), (.ref b2o)])) rfl rfl (hb hby d3_32)
  have N30 := Fr.snoc X30 N24 b2
  have Z30 : n0 ≤ h30.size := by rw [W30.size]; exact Z24
  have K30 : Keep h0 h30 [a1] := K24.wr W30 (Or.inr bk2)
  have V30 : Arv Z h30 b2o ck2 .long (8 : Int32) [(.long (-9223372036854775808 : Int64)), (.long (0 : Int64)), (.long (-9223372036854775808 : Int64)), (.long (0 : Int64)), (.long (-9223372036854775808 : Int64)), (.long (0 : Int64)), (.long (-9223372036854775808 : Int64)), (.long (0 : Int64))] (.long (0 : Int64)) := Arv.set Ar29 qk29 Sz29 Nn29 Hh29 Gg29 rfl W30 6 rfl (Nat.le_of_ble_eq_true rfl)
  have f31 := (f25.other W30 (Or.inl ne3))
  obtain ⟨T32, X32, e32, st32⟩ := getF X30 hx hZ hown (host := "") (Or.inl (hw _ (own_w 18 rfl))) Via.refl e30 f31 (g := (mkF m 17 #[.val (.ref a1), .val (.int (4 : Int32)), .val (.int (8 : Int32))] [(.ref a1), (.int (8 : Int32))])) rfl rfl (hb hby d3_17)
  obtain ⟨cl33, Ar33, qk33, Sz33, Nn33, Hh33, Gg33⟩ := id (V30)
  obtain ⟨_, _, ⟨T34, Lq34, kq34, nq34⟩, -, X34, ⟨Lc34, hQ34, lq34, yq34, zq34⟩, st34⟩ := Jvm.LawKit.callS X32 hx (y := (⟨"java/lang/Long", "numberOfLeadingZeros", "(J)I"⟩ : MethodName)) hown (mvT hZ (hw _ (own_w 21 rfl))) (mvT hZ (hw _ (own_w 22 rfl))) (mvT hZ (hw _ (own_w 23 rfl))) (mvT hZ (hw _ (own_w 24 rfl))) (by decide) (backOf (W := 1) (rmZ4 l Z a0 hw []   h30 n0 Z30 ) hZ (hw _ (own_w 24 rfl)) (hw _ (own_w 23 rfl)) (by decide) (by decide)) (g := (mkF m 42 #[.val (.ref a1), .val (.int (4 : Int32)), .val (.int (8 : Int32))] [(.long (4 : Int64)), (.ref a1)])) rfl (by rw [hml]; rfl) (argsL := [(.long (4 : Int64))]) (rest := [(.ref a1)]) (lenOf pd_1 rfl) rfl (by show 2 * 0 + _ ≤ _; exact Nat.le_of_eq rfl) (hb hby d3_42) (fun _ _ => ⟨rfl, e32, (by decide : 1 + 0 ≤ _), (by decide : 8 + 0 ≤ _)⟩)
  dsimp only [Pt.U, Pt.locs, Pt.cells, Pt.slots] at X34 lq34 yq34 zq34 st34 hQ34
  subst lq34 yq34 zq34
  obtain ⟨r34, hr34, rfl, N34q, e34⟩ := hQ34
  have N34 := Fr.app N30 N34q
  subst hr34
  have f35 := (((((f4.wr W6).wr W12).wr W18).wr W24).wr W30)
  have f36 := ((((((F_shift.ext E2).other W6 (Or.inr (slot_ne (Or.inl (hw _ (own_w 31 rfl))) (Or.inl (hw _ (own_w 19 rfl))) (by decide) (t := .int) (t' := (.array .long)) (by decide) (by decide)))).other W12 (Or.inl ne3)).other W18 (Or.inl ne3)).other W24 (Or.inl ne3)).other W30 (Or.inl ne3))
  obtain ⟨T37, h37, X37, e37, W37, st37⟩ := putF X34 hx hZ hown (host := "") (Or.inl (hw _ (own_w 30 rfl))) Via.refl e34 f36 f35 (Or.inl (hw _ (own_w 31 rfl))) (hw _ (own_w 6 rfl)) (ty := .int) (by decide) rfl rfl (g := (mkF m 47 #[.val (.ref a1), .val (.int (4 : Int32)), .val (.int (8 : Int32))] [(.int (62 : Int32)), (.ref a1)])) rfl rfl (hb hby d3_47)
  have N37 := Fr.snoc X37 N34 ga
  have Z37 : n0 ≤ h37.size := by rw [W37.size]; exact Z30
  have K37 : Keep h0 h37 [a1] := K30.wr W37 (Or.inl (own_w 0 rfl))
  have Fw37 := f36.same W37
  obtain ⟨fs, hr, hrun, hended, hW, hsame⟩ := X37.leave (v := none) (fun _ => rfl) (BodyLoose.notSynchronized Bd)
  refine ⟨_, _, pre0 _ ?_, hrun, hended, _, _, rfl, ?_, ⟨_, rfl⟩, hW, hsame.mono (by decide) (by decide)⟩
  · show Steps p.tables e below (s₁.setTop (mkF m 0 #[.val (.ref a1), .val (.int (4 : Int32)), .unset] [])) _
    refine XS.aloadN X0.here hx rfl (hb hby d3_0) rfl rfl ?_
    refine st1 _ ?_
    refine XS.aloadN X1.here hx rfl (hb hby d3_4) rfl rfl ?_
    refine XS.iconst X1.here hx rfl (hb hby d3_5) ?_
    refine XS.iloadN X1.here hx rfl (hb hby d3_6) rfl ?_
    refine XS.imul X1.here hx rfl (hb hby d3_7) rfl ?_
    refine st2 _ ?_
    refine st6 _ ?_
    refine XS.iconst X6.here hx rfl (hb hby d3_13) ?_
    refine XS.istoreN X6.here hx rfl (hb hby d3_14) rfl (l' := #[.val (.ref a1), .val (.int (4 : Int32)), .val (.int (0 : Int32))]) rfl ?_
    refine XS.iloadN X6.here hx rfl (hb hby d3_15) rfl ?_
    refine XS.aloadN X6.here hx rfl (hb hby d3_16) rfl rfl ?_
    refine st7 _ ?_
    refine X7.arraylength hx (by rw [e7]; exact Ar9.1) (State.isArrayOf_alike hZ.alike Ar9.2.1) (g := (mkF m 20 #[.val (.ref a1), .val (.int (4 : Int32)), .val (.int (0 : Int32))] [(.ref b2o), (.int (0 : Int32))])) rfl rfl (hb hby d3_20) _ ?_
    rw [len_of Sz9 Nn9]
    show Steps p.tables e below (T7.setTop (mkF m 21 #[.val (.ref a1), .val (.int (4 : Int32)), .val (.int (0 : Int32))] [(.int (8 : Int32)), (.int (0 : Int32))])) _
    refine XS.icmpNo X7.here hx rfl (hb hby d3_21) rfl (tlt (by decide)).2.1 ?_
    refine XS.aloadN X7.here hx rfl (hb hby d3_24) rfl rfl ?_
    refine st10 _ ?_
    refine XS.iloadN X10.here hx rfl (hb hby d3_28) rfl ?_
    refine X10.ldc2Long hx hown (mvT hZ (hw _ (own_w 20 rfl))) (g := (mkF m 29 #[.val (.ref a1), .val (.int (4 : Int32)), .val (.int (0 : Int32))] [(.int (0 : Int32)), (.ref b2o)])) rfl (hb hby d3_29) _ ?_
    refine st12 _ ?_
    refine XS.iinc X12.here hx rfl (hb hby d3_33) rfl (l' := #[.val (.ref a1), .val (.int (4 : Int32)), .val (.int (2 : Int32))]) rfl ?_
    refine XS.goto X12.here hx rfl (pc0 := 36) (pc' := 15) rfl (hb hby d3_36) (by decide) (by decide) ?_
    refine XS.iloadN X12.here hx rfl (hb hby d3_15) rfl ?_
    refine XS.aloadN X12.here hx rfl (hb hby d3_16) rfl rfl ?_
    refine st14 _ ?_
    refine X14.arraylength hx (by rw [e14]; exact Ar15.1) (State.isArrayOf_alike hZ.alike Ar15.2.1) (g := (mkF m 20 #[.val (.ref a1), .val (.int (4 : Int32)), .val (.int (2 : Int32))] [(.ref b2o), (.int (2 : Int32))])) rfl rfl (hb hby d3_20) _ ?_
    rw [len_of Sz15 Nn15]
    show Steps p.tables e below (T14.setTop (mkF m 21 #[.val (.ref a1), .val (.int (4 : Int32)), .val (.int (2 : Int32))] [(.int (8 : Int32)), (.int (2 : Int32))])) _
    refine XS.icmpNo X14.here hx rfl (hb hby d3_21) rfl (tlt (by decide)).2.1 ?_
    refine XS.aloadN X14.here hx rfl (hb hby d3_24) rfl rfl ?_
    refine st16 _ ?_
    refine XS.iloadN X16.here hx rfl (hb hby d3_28) rfl ?_
    refine X16.ldc2Long hx hown (mvT hZ (hw _ (own_w 20 rfl))) (g := (mkF m 29 #[.val (.ref a1), .val (.int (4 : Int32)), .val (.int (2 : Int32))] [(.int (2 : Int32)), (.ref b2o)])) rfl (hb hby d3_29) _ ?_
    refine st18 _ ?_
    refine XS.iinc X18.here hx rfl (hb hby d3_33) rfl (l' := #[.val (.ref a1), .val (.int (4 : Int32)), .val (.int (4 : Int32))]) rfl ?_
    refine XS.goto X18.here hx rfl (pc0 := 36) (pc' := 15) rfl (hb hby d3_36) (by decide) (by decide) ?_
    refine XS.iloadN X18.here hx rfl (hb hby d3_15) rfl ?_
    refine XS.aloadN X18.here hx rfl (hb hby d3_16) rfl rfl ?_
    refine st20 _ ?_
    refine X20.arraylength hx (by rw [e20]; exact Ar21.1) (State.isArrayOf_alike hZ.alike Ar21.2.1) (g := (mkF m 20 #[.val (.ref a1), .val (.int (4 : Int32)), .val (.int (4 : Int32))] [(.ref b2o), (.int (4 : Int32))])) rfl rfl (hb hby d3_20) _ ?_
    rw [len_of Sz21 Nn21]
    show Steps p.tables e below (T20.setTop (mkF m 21 #[.val (.ref a1), .val (.int (4 : Int32)), .val (.int (4 : Int32))] [(.int (8 : Int32)), (.int (4 : Int32))])) _
    refine XS.icmpNo X20.here hx rfl (hb hby d3_21) rfl (tlt (by decide)).2.1 ?_
    refine XS.aloadN X20.here hx rfl (hb hby d3_24) rfl rfl ?_
    refine st22 _ ?_
    refine XS.iloadN X22.here hx rfl (hb hby d3_28) rfl ?_
    refine X22.ldc2Long hx hown (mvT hZ (hw _ (own_w 20 rfl))) (g := (mkF m 29 #[.val (.ref a1), .val (.int (4 : Int32)), .val (.int (4 : Int32))] [(.int (4 : Int32)), (.ref b2o)])) rfl (hb hby d3_29) _ ?_
    refine st24 _ ?_
    refine XS.iinc X24.here hx rfl (hb hby d3_33) rfl (l' := #[.val (.ref a1), .val (.int (4 : Int32)), .val (.int (6 : Int32))]) rfl ?_
    refine XS.goto X24.here hx rfl (pc0 := 36) (pc' := 15) rfl (hb hby d3_36) (by decide) (by decide) ?_
    refine XS.iloadN X24.here hx rfl (hb hby d3_15) rfl ?_
    refine XS.aloadN X24.here hx rfl (hb hby d3_16) rfl rfl ?_
    refine st26 _ ?_
    refine X26.arraylength hx (by rw [e26]; exact Ar27.1) (State.isArrayOf_alike hZ.alike Ar27.2.1) (g := (mkF m 20 #[.val (.ref a1), .val (.int (4 : Int32)), .val (.int (6 : Int32))] [(.ref b2o), (.int (6 : Int32))])) rfl rfl (hb hby d3_20) _ ?_
    rw [len_of Sz27 Nn27]
    show Steps p.tables e below (T26.setTop (mkF m 21 #[.val (.ref a1), .val (.int (4 : Int32)), .val (.int (6 : Int32))] [(.int (8 : Int32)), (.int (6 : Int32))])) _
    refine XS.icmpNo X26.here hx rfl (hb hby d3_21) rfl (tlt (by decide)).2.1 ?_
    refine XS.aloadN X26.here hx rfl (hb hby d3_24) rfl rfl ?_
    refine st28 _ ?_
    refine XS.iloadN X28.here hx rfl (hb hby d3_28) rfl ?_
    refine X28.ldc2Long hx hown (mvT hZ (hw _ (own_w 20 rfl))) (g := (mkF m 29 #[.val (.ref a1), .val (.int (4 : Int32)), .val (.int (6 : Int32))] [(.int (6 : Int32)), (.ref b2o)])) rfl (hb hby d3_29) _ ?_
    refine st30 _ ?_
    refine XS.iinc X30.here hx rfl (hb hby d3_33) rfl (l' := #[.val (.ref a1), .val (.int (4 : Int32)), .val (.int (8 : Int32))]) rfl ?_
    refine XS.goto X30.here hx rfl (pc0 := 36) (pc' := 15) rfl (hb hby d3_36) (by decide) (by decide) ?_
    refine XS.iloadN X30.here hx rfl (hb hby d3_15) rfl ?_
    refine XS.aloadN X30.here hx rfl (hb hby d3_16) rfl rfl ?_
    refine st32 _ ?_
    refine X32.arraylength hx (by rw [e32]; exact Ar33.1) (State.isArrayOf_alike hZ.alike Ar33.2.1) (g := (mkF m 20 #[.val (.ref a1), .val (.int (4 : Int32)), .val (.int (8 : Int32))] [(.ref b2o), (.int (8 : Int32))])) rfl rfl (hb hby d3_20) _ ?_
    rw [len_of Sz33 Nn33]
    show Steps p.tables e below (T32.setTop (mkF m 21 #[.val (.ref a1), .val (.int (4 : Int32)), .val (.int (8 : Int32))] [(.int (8 : Int32)), (.int (8 : Int32))])) _
    refine XS.icmpYes X32.here hx rfl (pc0 := 21) (pc' := 39) rfl (hb hby d3_21) rfl (flt (by decide)).2.1 (by decide) (by decide) ?_
    refine XS.aloadN X32.here hx rfl (hb hby d3_39) rfl rfl ?_
    refine XS.iloadN X32.here hx rfl (hb hby d3_40) rfl ?_
    refine XS.i2l X32.here hx rfl (hb hby d3_41) rfl ?_
    refine st34 _ ?_
    refine XS.iconst X34.here hx rfl (hb hby d3_45) ?_
    refine XS.iadd X34.here hx rfl (hb hby d3_46) rfl ?_
    refine st37 _ ?_
    show Steps p.tables e below (T37.setTop (mkF m 50 #[.val (.ref a1), .val (.int (4 : Int32)), .val (.int (8 : Int32))] [])) _
    exact X37.returnOut hx Bd.returns (hb hby d3_50) hr
  · show QrmI4 Z a1 h0 n0 _ T37.heap _
    have f38 := (f35.wr W37)
    have f39 := (f31.other W37 (Or.inr (slot_ne (Or.inl (hw _ (own_w 19 rfl))) (Or.inl (hw _ (own_w 31 rfl))) (by decide) (t := (.array .long)) (t' := .int) (by decide) (by decide))))
    have f40 := (((((((F_size.ext E2).other W6 (Or.inr (slot_ne (Or.inl (hw _ (own_w 48 rfl))) (Or.inl (hw _ (own_w 19 rfl))) (by decide) (t := .int) (t' := (.array .long)) (by decide) (by decide)))).other W12 (Or.inl ne3)).other W18 (Or.inl ne3)).other W24 (Or.inl ne3)).other W30 (Or.inl ne3)).other W37 (Or.inr (slot_ne (Or.inl (hw _ (own_w 48 rfl))) (Or.inl (hw _ (own_w 31 rfl))) (by decide) (t := .int) (t' := .int) (by decide) (by decide))))
    have f41 := (((((((F_sorted.ext E2).other W6 (Or.inr (slot_ne (Or.inl (hw _ (own_w 46 rfl))) (Or.inl (hw _ (own_w 19 rfl))) (by decide) (t := (.array .long)) (t' := (.array .long)) (by decide) (by decide)))).other W12 (Or.inl ne3)).other W18 (Or.inl ne3)).other W24 (Or.inl ne3)).other W30 (Or.inl ne3)).other W37 (Or.inr (slot_ne (Or.inl (hw _ (own_w 46 rfl))) (Or.inl (hw _ (own_w 31 rfl))) (by decide) (t := (.array .long)) (t' := .int) (by decide) (by decide))))
    have f42 := (V30.other W37 (Ne.symm ne3))
    rw [e37]
    exact ⟨rfl, N37, K37, b2o, _, b2, bk2, f38, f39, Fw37, f40, f41, f42⟩
theorem ef_rmI8 (m : MethodId) (a1 : Addr) : entryFrame m #[(.ref a1), (.int (8 : Int32))] 3 = mkF m 0 #[.val (.ref a1), .val (.int (8 : Int32)), .unset] [] := by first | (simp [entryFrame, mkF, argsToLocals, Value.category]; done) | rfl
def QrmI8 (Z : State) (a1 : Addr) (h0 : Heap) (n0 : Nat) (v : Option Value) (h : Heap) (L : List Loc) : Prop := v = none ∧ Fr n0 L ∧ Keep h0 h [a1] ∧ ∃ (sa : Addr) (sk : ClassId), n0 ≤ sa ∧ h0.size ≤ sa ∧ Exa Z h a1 "com/example/pricewright/pricewright/core/LongSumTable" ∧ Fld Z h a1 "com/example/pricewright/pricewright/core/LongSumTable" "slots" "[J" (.ref sa) ∧ Fld Z h a1 "com/example/pricewright/pricewright/core/LongSumTable" "shift" "I" (.int (61 : Int32)) ∧ Fld Z h a1 "com/example/pricewright/pricewright/core/LongSumTable" "size" "I" (.int (0 : Int32)) ∧ Fld Z h a1 "com/example/pricewright/pricewright/core/LongSumTable" "sorted" "[J" .null ∧ Arv Z h sa sk .long (16 : Int32) (own_new8.map Value.long) (.long (0 : Int64))
set_option maxRecDepth 65536 in
set_option maxHeartbeats 40000000 in
theorem rmI8 (l : Launch) (Z : State) (a0 : Array Value) (hw : ∀ d ∈ tables_1, d.before a0 Z = true) (ws : List Jvm.Cond) (a1 : Addr) (h0 : Heap) (n0 : Nat) (Z0 : n0 ≤ h0.size) (E : Exa Z h0 a1 "com/example/pricewright/pricewright/core/LongSumTable") (F_slots : Fld Z h0 a1 "com/example/pricewright/pricewright/core/LongSumTable" "slots" "[J" .null) (F_shift : Fld Z h0 a1 "com/example/pricewright/pricewright/core/LongSumTable" "shift" "I" (.int (0 : Int32))) (F_size : Fld Z h0 a1 "com/example/pricewright/pricewright/core/LongSumTable" "size" "I" (.int (0 : Int32))) (F_sorted : Fld Z h0 a1 "com/example/pricewright/pricewright/core/LongSumTable" "sorted" "[J" .null) (ga : n0 ≤ a1) :
    MetFree l (⟨"com/example/pricewright/pricewright/core/LongSumTable", "<init>", "(I)V"⟩ : MethodName) (head1 (Jvm.Cond.code (⟨"com/example/pricewright/pricewright/core/LongSumTable", "<init>", "(I)V"⟩ : MethodName) prog_19_method_2_code 3 none :: ws) ({ frames := 2, cells := 1, slots := 16, locals := 29 } : Room)) (fun a U => a = #[(.ref a1), (.int (8 : Int32))] ∧ Z.Warmed39 U.vm ∧ U.heap = h0) (fun _ _ _ _ _ => True) (fun _ U o U' => ∃ v L, o = .returned v ∧ QrmI8 Z a1 h0 n0 v U'.heap L ∧ FrameEnd U o U' L ({ frames := 2, cells := 1, slots := 16, locals := 29 } : Room).cells ({ frames := 2, cells := 1, slots := 16, locals := 29 } : Room).slots) := by
  refine MetFree.of_bodySF (plainFor_of_name pn_3) hisR ?_
  intro p e s m args below meth c s₁ Bd hml0 hP hK
  obtain ⟨rfl, hZ, hh⟩ := hP
  have hx := Bd.exec
  have hby := Bd.bytes
  have hml : c.maxLocals = 3 := hml0
  have hown : s.vm.findClass "com/example/pricewright/pricewright/core/LongSumTable" = some m.cls := findClass_of_methodNamed Bd.named
  have hnm := (name_of_methodNamed Bd.named Bd.method).1
  have X0 : Stand p l e ({ frames := 2, cells := 1, slots := 16, locals := 29 } : Room) s m #[(.ref a1), (.int (8 : Int32))] below meth c s₁ [] 0 0 := Stand.of_body Bd
  have e0 : s₁.heap = h0 := by rw [← hh, Bd.state]; rfl
  have N0 := Fr.nil n0
  have pre0 : ∀ t, Steps p.tables e below (s₁.setTop (mkF m 0 #[.val (.ref a1), .val (.int (8 : Int32)), .unset] [])) t → Steps p.tables e below (s₁.setTop (entryFrame m #[(.ref a1), (.int (8 : Int32))] 3)) t := fun t k => castTop (ef_rmI8 m a1) k
  obtain ⟨T1, X1, e1, st1⟩ := initO X0 hx hZ hown (hw _ (own_w 14 rfl)) (hw _ (own_w 15 rfl)) (hw _ (own_w 16 rfl)) e0 (g := (mkF m 1 #[.val (.ref a1), .val (.int (8 : Int32)), .unset] [(.ref a1)])) rfl (by rw [hml]; rfl) rfl (hb hby d3_1) (by decide) (W := 0) (by show 2 * 0 + _ ≤ _; exact Nat.le_of_eq rfl) (by decide)
  obtain ⟨T2, h2, ck2, X2, e2, E2, A2, st2⟩ := newP X1 hx hZ (hw _ (own_w 17 rfl)) e1 (g := (mkF m 8 #[.val (.ref a1), .val (.int (8 : Int32)), .unset] [(.int (16 : Int32)), (.ref a1)])) rfl (hb hby d3_8) rfl (by decide) (cap := 16) (by decide) (by decide) (by decide) (by decide)
  obtain ⟨b2o, g2⟩ : ∃ z, z = h0.size := ⟨_, rfl⟩
  have b2 : n0 ≤ b2o := Nat.le_trans Z0 (Nat.le_of_eq g2.symm)
  have bk2 : h0.size ≤ b2o := Nat.le_trans (Keep.refl h0 [a1]).1 (Nat.le_of_eq g2.symm)
  have ne3 : a1 ≠ b2o := Nat.ne_of_lt (Nat.lt_of_lt_of_le E.lt (Nat.le_of_eq g2.symm))
  rw [← g2] at A2 st2
  have Z2 : n0 ≤ h2.size := Nat.le_trans Z0 E2.1
  have K2 : Keep h0 h2 [a1] := (Keep.refl h0 [a1]).ext E2
  have V2 : Arv Z h2 b2o ck2 .long (16 : Int32) [(.long (0 : Int64)), (.long (0 : Int64)), (.long (0 : Int64)), (.long (0 : Int64)), (.long (0 : Int64)), (.long (0 : Int64)), (.long (0 : Int64)), (.long (0 : Int64)), (.long (0 : Int64)), (.long (0 : Int64)), (.long (0 : Int64)), (.long (0 : Int64)), (.long (0 : Int64)), (.long (0 : Int64)), (.long (0 : Int64)), (.long (0 : Int64))] (.long (0 : Int64)) := (Arv.new A2 (by decide)).pad (pad_rep [] (.long (0 : Int64)) 16)
  have f4 := (E.ext E2)
  have f5 := (F_slots.ext E2)
  obtain ⟨T6, h6, X6, e6, W6, st6⟩ := putF X2 hx hZ hown (host := "") (Or.inl (hw _ (own_w 18 rfl))) Via.refl e2 f5 f4 (Or.inl (hw _ (own_w 19 rfl))) (hw _ (own_w 6 rfl)) (ty := (.array .long)) (by decide) rfl rfl (g := (mkF m 10 #[.val (.ref a1), .val (.int (8 : Int32)), .unset] [(.ref b2o), (.ref a1)])) rfl rfl (hb hby d3_10)
  have N6 := Fr.snoc X6 N0 ga
  have Z6 : n0 ≤ h6.size := by rw [W6.size]; exact Z2
  have K6 : Keep h0 h6 [a1] := K2.wr W6 (Or.inl (own_w 0 rfl))
  have Fw6 := f5.same W6
  obtain ⟨T7, X7, e7, st7⟩ := getF X6 hx hZ hown (host := "") (Or.inl (hw _ (own_w 18 rfl))) Via.refl e6 Fw6 (g := (mkF m 17 #[.val (.ref a1), .val (.int (8 : Int32)), .val (.int (0 : Int32))] [(.ref a1), (.int (0 : Int32))])) rfl rfl (hb hby d3_17)
  have f8 := (V2.other W6 (Ne.symm ne3))
  obtain ⟨cl9, Ar9, qk9, Sz9, Nn9, Hh9, Gg9⟩ := id (f8)
  obtain ⟨T10, X10, e10, st10⟩ := getF X7 hx hZ hown (host := "") (Or.inl (hw _ (own_w 18 rfl))) Via.refl e7 Fw6 (g := (mkF m 25 #[.val (.ref a1), .val (.int (8 : Int32)), .val (.int (0 : Int32))] [(.ref a1)])) rfl rfl (hb hby d3_25)
  obtain ⟨cl11, Ar11, qk11, Sz11, Nn11, Hh11, Gg11⟩ := id (f8)
  have hin12 : ¬ ((0 : Int32) < 0 ∨ cl11.slots.size ≤ ((0 : Int32)).toNatClampNeg) := inb_of Sz11 ⟨by decide, by decide⟩
  obtain ⟨T12, h12, X12, e12, W12, st12⟩ := stJ X10 hx hZ e10 Ar11 (j := (0 : Int32)) hin12  (g := (mkF m 32 #[.val (.ref a1), .val (.int (8 : Int32)), .val (.int (0 : Int32))] [(.long (-9223372036854775808 : Int64)), (.int (0 : Int32)), (.ref b2o)])) rfl rfl (hb hby d3_32)
  have N12 := Fr.snoc X12 N6 b2
  have Z12 : n0 ≤ h12.size := by rw [W12.size]; exact Z6
  have K12 : Keep h0 h12 [a1] := K6.wr W12 (Or.inr bk2)
  have V12 : Arv Z h12 b2o ck2 .long (16 : Int32) [(.long (-9223372036854775808 : Int64)), (.long (0 : Int64)), (.long (0 : Int64)), (.long (0 : Int64)), (.long (0 : Int64)), (.long (0 : Int64)), (.long (0 : Int64)), (.long (0 : Int64)), (.long (0 : Int64)), (.long (0 : Int64)), (.long (0 : Int64)), (.long (0 : Int64)), (.long (0 : Int64)), (.long (0 : Int64)), (.long (0 : Int64)), (.long (0 : Int64))] (.long (0 : Int64)) := Arv.set Ar11 qk11 Sz11 Nn11 Hh11 Gg11 rfl W12 0 rfl (Nat.le_of_ble_eq_true rfl)
  have f13 := (Fw6.other W12 (Or.inl ne3))
  obtain ⟨T14, X14, e14, st14⟩ := getF X12 hx hZ hown (host := "") (Or.inl (hw _ (own_w 18 rfl))) Via.refl e12 f13 (g := (mkF m 17 #[.val (.ref a1), .val (.int (8 : Int32)), .val (.int (2 : Int32))] [(.ref a1), (.int (2 : Int32))])) rfl rfl (hb hby d3_17)
  obtain ⟨cl15, Ar15, qk15, Sz15, Nn15, Hh15, Gg15⟩ := id (V12)
  obtain ⟨T16, X16, e16, st16⟩ := getF X14 hx hZ hown (host := "") (Or.inl (hw _ (own_w 18 rfl))) Via.refl e14 f13 (g := (mkF m 25 #[.val (.ref a1), .val (.int (8 : Int32)), .val (.int (2 : Int32))] [(.ref a1)])) rfl rfl (hb hby d3_25)
  obtain ⟨cl17, Ar17, qk17, Sz17, Nn17, Hh17, Gg17⟩ := id (V12)
  have hin18 : ¬ ((2 : Int32) < 0 ∨ cl17.slots.size ≤ ((2 : Int32)).toNatClampNeg) := inb_of Sz17 ⟨by decide, by decide⟩
  obtain ⟨T18, h18, X18, e18, W18, st18⟩ := stJ X16 hx hZ e16 Ar17 (j := (2 : Int32)) hin18  (g := (mkF m 32 #[.val (.ref a1), .val (.int (8 : Int32)), .val (.int (2 : Int32))] [(.long (-9223372036854775808 : Int64)), (.int (2 : Int32)), (.ref b2o)])) rfl rfl (hb hby d3_32)
  have N18 := Fr.snoc X18 N12 b2
  have Z18 : n0 ≤ h18.size := by rw [W18.size]; exact Z12
  have K18 : Keep h0 h18 [a1] := K12.wr W18 (Or.inr bk2)
  have V18 : Arv Z h18 b2o ck2 .long (16 : Int32) [(.long (-9223372036854775808 : Int64)), (.long (0 : Int64)), (.long (-9223372036854775808 : Int64)), (.long (0 : Int64)), (.long (0 : Int64)), (.long (0 : Int64)), (.long (0 : Int64)), (.long (0 : Int64)), (.long (0 : Int64)), (.long (0 : Int64)), (.long (0 : Int64)), (.long (0 : Int64)), (.long (0 : Int64)), (.long (0 : Int64)), (.long (0 : Int64)), (.long (0 : Int64))] (.long (0 : Int64)) := Arv.set Ar17 qk17 Sz17 Nn17 Hh17 Gg17 rfl W18 2 rfl (Nat.le_of_ble_eq_true rfl)
  have f19 := (f13.other W18 (Or.inl ne3))
  obtain ⟨T20, X20, e20, st20⟩ := getF X18 hx hZ hown (host := "") (Or.inl (hw _ (own_w 18 rfl))) Via.refl e18 f19 (g := (mkF m 17 #[.val (.ref a1), .val (.int (8 : Int32)), .val (.int (4 : Int32))] [(.ref a1), (.int (4 : Int32))])) rfl rfl (hb hby d3_17)
  obtain ⟨cl21, Ar21, qk21, Sz21, Nn21, Hh21, Gg21⟩ := id (V18)
  obtain ⟨T22, X22, e22, st22⟩ := getF X20 hx hZ hown (host := "") (Or.inl (hw _ (own_w 18 rfl))) Via.refl e20 f19 (g := (mkF m 25 #[.val (.ref a1), .val (.int (8 : Int32)), .val (.int (4 : Int32))] [(.ref a1)])) rfl rfl (hb hby d3_25)
  obtain ⟨cl23, Ar23, qk23, Sz23, Nn23, Hh23, Gg23⟩ := id (V18)
  have hin24 : ¬ ((4 : Int32) < 0 ∨ cl23.slots.size ≤ ((4 : Int32)).toNatClampNeg) := inb_of Sz23 ⟨by decide, by decide⟩
  obtain ⟨T24, h24, X24, e24, W24, st24⟩ := stJ X22 hx hZ e22 Ar23 (j := (4 : Int32)) hin24  (g := (mkF m 32 #[.val (.ref a1), .val (.int (8 : Int32)), .val (.int (4 : Int32))] [(.long (-9223372036854775808 : Int64)), (.int (4 : Int32)), (.ref b2o)])) rfl rfl (hb hby d3_32)
  have N24 := Fr.snoc X24 N18 b2
  have Z24 : n0 ≤ h24.size := by rw [W24.size]; exact Z18
  have K24 : Keep h0 h24 [a1] := K18.wr W24 (Or.inr bk2)
  have V24 : Arv Z h24 b2o ck2 .long (16 : Int32) [(.long (-9223372036854775808 : Int64)), (.long (0 : Int64)), (.long (-9223372036854775808 : Int64)), (.long (0 : Int64)), (.long (-9223372036854775808 : Int64)), (.long (0 : Int64)), (.long (0 : Int64)), (.long (0 : Int64)), (.long (0 : Int64)), (.long (0 : Int64)), (.long (0 : Int64)), (.long (0 : Int64)), (.long (0 : Int64)), (.long (0 : Int64)), (.long (0 : Int64)), (.long (0 : Int64))] (.long (0 : Int64)) := Arv.set Ar23 qk23 Sz23 Nn23 Hh23 Gg23 rfl W24 4 rfl (Nat.le_of_ble_eq_true rfl)
  have f25 := (f19.other W24 (Or.inl ne3))
  obtain ⟨T26, X26, e26, st26⟩ := getF X24 hx hZ hown (host := "") (Or.inl (hw _ (own_w 18 rfl))) Via.refl e24 f25 (g := (mkF m 17 #[.val (.ref a1), .val (.int (8 : Int32)), .val (.int (6 : Int32))] [(.ref a1), (.int (6 : Int32))])) rfl rfl (hb hby d3_17)
  obtain ⟨cl27, Ar27, qk27, Sz27, Nn27, Hh27, Gg27⟩ := id (V24)
  obtain ⟨T28, X28, e28, st28⟩ := getF X26 hx hZ hown (host := "") (Or.inl (hw _ (own_w 18 rfl))) Via.refl e26 f25 (g := (mkF m 25 #[.val (.ref a1), .val (.int (8 : Int32)), .val (.int (6 : Int32))] [(.ref a1)])) rfl rfl (hb hby d3_25)
  obtain ⟨cl29, Ar29, qk29, Sz29, Nn29, Hh29, Gg29⟩ := id (V24)
  have hin30 : ¬ ((6 : Int32) < 0 ∨ cl29.slots.size ≤ ((6 : Int32)).toNatClampNeg) := inb_of Sz29 ⟨by decide, by decide⟩
  obtain ⟨T30, h30, X30, e30, W30, st30⟩ := stJ X28 hx hZ e28 Ar29 (j := (6 : Int32)) hin30  (g := (mkF m 32 #[.val (.ref a1), .val (.int (8 : Int32)), .val (.int (6 : Int32))] [(.long (-9223372036854775808 : Int64)), (.int (6 : Int32)), (.ref b2o)])) rfl rfl (hb hby d3_32)
  have N30 := Fr.snoc X30 N24 b2
  have Z30 : n0 ≤ h30.size := by rw [W30.size]; exact Z24
  have K30 : Keep h0 h30 [a1] := K24.wr W30 (Or.inr bk2)
  have V30 : Arv Z h30 b2o ck2 .long (16 : Int32) [(.long (-9223372036854775808 : Int64)), (.long (0 : Int64)), (.long (-9223372036854775808 : Int64)), (.long (0 : Int64)), (.long (-9223372036854775808 : Int64)), (.long (0 : Int64)), (.long (-9223372036854775808 : Int64)), (.long (0 : Int64)), (.long (0 : Int64)), (.long (0 : Int64)), (.long (0 : Int64)), (.long (0 : Int64)), (.long (0 : Int64)), (.long (0 : Int64)), (.long (0 : Int64)), (.long (0 : Int64))] (.long (0 : Int64)) := Arv.set Ar29 qk29 Sz29 Nn29 Hh29 Gg29 rfl W30 6 rfl (Nat.le_of_ble_eq_true rfl)
  have f31 := (f25.other W30 (Or.inl ne3))
  obtain ⟨T32, X32, e32, st32⟩ := getF X30 hx hZ hown (host := "") (Or.inl (hw _ (own_w 18 rfl))) Via.refl e30 f31 (g := (mkF m 17 #[.val (.ref a1), .val (.int (8 : Int32)), .val (.int (8 : Int32))] [(.ref a1), (.int (8 : Int32))])) rfl rfl (hb hby d3_17)
  obtain ⟨cl33, Ar33, qk33, Sz33, Nn33, Hh33, Gg33⟩ := id (V30)
  obtain ⟨T34, X34, e34, st34⟩ := getF X32 hx hZ hown (host := "") (Or.inl (hw _ (own_w 18 rfl))) Via.refl e32 f31 (g := (mkF m 25 #[.val (.ref a1), .val (.int (8 : Int32)), .val (.int (8 : Int32))] [(.ref a1)])) rfl rfl (hb hby d3_25)
  obtain ⟨cl35, Ar35, qk35, Sz35, Nn35, Hh35, Gg35⟩ := id (V30)
  have hin36 : ¬ ((8 : Int32) < 0 ∨ cl35.slots.size ≤ ((8 : Int32)).toNatClampNeg) := inb_of Sz35 ⟨by decide, by decide⟩
  obtain ⟨T36, h36, X36, e36, W36, st36⟩ := stJ X34 hx hZ e34 Ar35 (j := (8 : Int32)) hin36  (g := (mkF m 32 #[.val (.ref a1), .val (.int (8 : Int32)), .val (.int (8 : Int32))] [(.long (-9223372036854775808 : Int64)), (.int (8 : Int32)), (.ref b2o)])) rfl rfl (hb hby d3_32)
  have N36 := Fr.snoc X36 N30 b2
  have Z36 : n0 ≤ h36.size := by rw [W36.size]; exact Z30
  have K36 : Keep h0 h36 [a1] := K30.wr W36 (Or.inr bk2)
  have V36 : Arv Z h36 b2o ck2 .long (16 : Int32) [(.long (-9223372036854775808 : Int64)), (.long (0 : Int64)), (.long (-9223372036854775808 : Int64)), (.long (0 : Int64)), (.long (-9223372036854775808 : Int64)), (.long (0 : Int64)), (.long (-9223372036854775808 : Int64)), (.long (0 : Int64)), (.long (-9223372036854775808 : Int64)), (.long (0 : Int64)), (.long (0 : Int64)), (.long (0 : Int64)), (.long (0 : Int64)), (.long (0 : Int64)), (.long (0 : Int64)), (.long (0 : Int64))] (.long (0 : Int64)) := Arv.set Ar35 qk35 Sz35 Nn35 Hh35 Gg35 rfl W36 8 rfl (Nat.le_of_ble_eq_true rfl)
  have f37 := (f31.other W36 (Or.inl ne3))
  obtain ⟨T38, X38, e38, st38⟩ := getF X36 hx hZ hown (host := "") (Or.inl (hw _ (own_w 18 rfl))) Via.refl e36 f37 (g := (mkF m 17 #[.val (.ref a1), .val (.int (8 : Int32)), .val (.int (10 : Int32))] [(.ref a1), (.int (10 : Int32))])) rfl rfl (hb hby d3_17)
  obtain ⟨cl39, Ar39, qk39, Sz39, Nn39, Hh39, Gg39⟩ := id (V36)
  obtain ⟨T40, X40, e40, st40⟩ := getF X38 hx hZ hown (host := "") (Or.inl (hw _ (own_w 18 rfl))) Via.refl e38 f37 (g := (mkF m 25 #[.val (.ref a1), .val (.int (8 : Int32)), .val (.int (10 : Int32))] [(.ref a1)])) rfl rfl (hb hby d3_25)
  obtain ⟨cl41, Ar41, qk41, Sz41, Nn41, Hh41, Gg41⟩ := id (V36)
  have hin42 : ¬ ((10 : Int32) < 0 ∨ cl41.slots.size ≤ ((10 : Int32)).toNatClampNeg) := inb_of Sz41 ⟨by decide, by decide⟩
  obtain ⟨T42, h42, X42, e42, W42, st42⟩ := stJ X40 hx hZ e40 Ar41 (j := (10 : Int32)) hin42  (g := (mkF m 32 #[.val (.ref a1), .val (.int (8 : Int32)), .val (.int (10 : Int32))] [(.long (-9223372036854775808 : Int64)), (.int (10 : Int32)), (.ref b2o)])) rfl rfl (hb hby d3_32)
  have N42 := Fr.snoc X42 N36 b2
  have Z42 : n0 ≤ h42.size := by rw [W42.size]; exact Z36
  have K42 : Keep h0 h42 [a1] := K36.wr W42 (Or.inr bk2)
  have V42 : Arv Z h42 b2o ck2 .long (16 : Int32) [(.long (-9223372036854775808 : Int64)), (.long (0 : Int64)), (.long (-9223372036854775808 : Int64)), (.long (0 : Int64)), (.long (-9223372036854775808 : Int64)), (.long (0 : Int64)), (.long (-9223372036854775808 : Int64)), (.long (0 : Int64)), (.long (-9223372036854775808 : Int64)), (.long (0 : Int64)), (.long (-9223372036854775808 : Int64)), (.long (0 : Int64)), (.long (0 : Int64)), (.long (0 : Int64)), (.long (0 : Int64)), (.long (0 : Int64))] (.long (0 : Int64)) := Arv.set Ar41 qk41 Sz41 Nn41 Hh41 Gg41 rfl W42 10 rfl (Nat.le_of_ble_eq_true rfl)
  have f43 := (f37.other W42 (Or.inl ne3))
  obtain ⟨T44, X44, e44, st44⟩ := getF X42 hx hZ hown (host := "") (Or.inl (hw _ (own_w 18 rfl))) Via.refl e42 f43 (g := (mkF m 17 #[.val (.ref a1), .val (.int (8 : Int32)), .val (.int (12 : Int32))] [(.ref a1), (.int (12 : Int32))])) rfl rfl (hb hby d3_17)
  obtain ⟨cl45, Ar45, qk45, Sz45, Nn45, Hh45, Gg45⟩ := id (V42)
  obtain ⟨T46, X46, e46, st46⟩ := getF X44 hx hZ hown (host := "") (Or.inl (hw _ (own_w 18 rfl))) Via.refl e44 f43 (g := (mkF m 25 #[.val (.ref a1), .val (.int (8 : Int32)), .val (.int (12 : Int32))] [(.ref a1)])) rfl rfl (hb hby d3_25)
  obtain ⟨cl47, Ar47, qk47, Sz47, Nn47, Hh47, Gg47⟩ := id (V42)
  have hin48 : ¬ ((12 : Int32) < 0 ∨ cl47.slots.size ≤ ((12 : Int32)).toNatClampNeg) := inb_of Sz47 ⟨by decide, by decide⟩
  obtain ⟨T48, h48, X48, e48, W48, st48⟩ := stJ X46 hx hZ e46 Ar47 (j := (12 : Int32)) hin48  (g := (mkF m 32 #[.val (.ref a1), .val (.int (8 : Int32)), .val (.int (12 : Int32))] [(.long (-9223372036854775808 : Int64)), (.int (12 : Int32)), (.ref b2o)])) rfl rfl (hb hby d3_32)
  have N48 := Fr.snoc X48 N42 b2
  have Z48 : n0 ≤ h48.size := by rw [W48.size]; exact Z42
  have K48 : Keep h0 h48 [a1] := K42.wr W48 (Or.inr bk2)
  have V48 : Arv Z h48 b2o ck2 .long (16 : Int32) [(.long (-9223372036854775808 : Int64)), (.long (0 : Int64)), (.long (-9223372036854775808 : Int64)), (.long (0 : Int64)), (.long (-9223372036854775808 : Int64)), (.long (0 : Int64)), (.long (-9223372036854775808 : Int64)), (.long (0 : Int64)), (.long (-9223372036854775808 : Int64)), (.long (0 : Int64)), (.long (-9223372036854775808 : Int64)), (.long (0 : Int64)), (.long (-9223372036854775808 : Int64)), (.long (0 : Int64)), (.long (0 : Int64)), (.long (0 : Int64))] (.long (0 : Int64)) := Arv.set Ar47 qk47 Sz47 Nn47 Hh47 Gg47 rfl W48 12 rfl (Nat.le_of_ble_eq_true rfl)
  have f49 := (f43.other W48 (Or.inl ne3))
  obtain ⟨T50, X50, e50, st50⟩ := getF X48 hx hZ hown (host := "") (Or.inl (hw _ (own_w 18 rfl))) Via.refl e48 f49 (g := (mkF m 17 #[.val (.ref a1), .val (.int (8 : Int32)), .val (.int (14 : Int32))] [(.ref a1), (.int (14 : Int32))])) rfl rfl (hb hby d3_17)
  obtain ⟨cl51, Ar51, qk51, Sz51, Nn51, Hh51, Gg51⟩ := id (V48)
  obtain ⟨T52, X52, e52, st52⟩ := getF X50 hx hZ hown (host := "") (Or.inl (hw _ (own_w 18 rfl))) Via.refl e50 f49 (g := (mkF m 25 #[.val (.ref a1), .val (.int (8 : Int32)), .val (.int (14 : Int32))] [(.ref a1)])) rfl rfl (hb hby d3_25)
  obtain ⟨cl53, Ar53, qk53, Sz53, Nn53, Hh53, Gg53⟩ := id (V48)
  have hin54 : ¬ ((14 : Int32) < 0 ∨ cl53.slots.size ≤ ((14 : Int32)).toNatClampNeg) := inb_of Sz53 ⟨by decide, by decide⟩
  obtain ⟨T54, h54, X54, e54, W54, st54⟩ := stJ X52 hx hZ e52 Ar53 (j := (14 : Int32)) hin54  (g := (mkF m 32 #[.val (.ref a1), .val (.int (8 : Int32)), .val (.int (14 : Int32))] [(.long (-9223372036854775808 : Int64)), (.int (14 : Int32)), (.ref b2o)])) rfl rfl (hb hby d3_32)
  have N54 := Fr.snoc X54 N48 b2
  have Z54 : n0 ≤ h54.size := by rw [W54.size]; exact Z48
  have K54 : Keep h0 h54 [a1] := K48.wr W54 (Or.inr bk2)
  have V54 : Arv Z h54 b2o ck2 .long (16 : Int32) [(.long (-9223372036854775808 : Int64)), (.long (0 : Int64)), (.long (-9223372036854775808 : Int64)), (.long (0 : Int64)), (.long (-9223372036854775808 : Int64)), (.long (0 : Int64)), (.long (-9223372036854775808 : Int64)), (.long (0 : Int64)), (.long (-9223372036854775808 : Int64)), (.long (0 : Int64)), (.long (-9223372036854775808 : Int64)), (.long (0 : Int64)), (.long (-9223372036854775808 : Int64)), (.long (0 : Int64)), (.long (-9223372036854775808 : Int64)), (.long (0 : Int64))] (.long (0 : Int64)) := Arv.set Ar53 qk53 Sz53 Nn53 Hh53 Gg53 rfl W54 14 rfl (Nat.le_of_ble_eq_true rfl)
  have f55 := (f49.other W54 (Or.inl ne3))
  obtain ⟨T56, X56, e56, st56⟩ := getF X54 hx hZ hown (host := "") (Or.inl (hw _ (own_w 18 rfl))) Via.refl e54 f55 (g := (mkF m 17 #[.val (.ref a1), .val (.int (8 : Int32)), .val (.int (16 : Int32))] [(.ref a1), (.int (16 : Int32))])) rfl rfl (hb hby d3_17)
  obtain ⟨cl57, Ar57, qk57, Sz57, Nn57, Hh57, Gg57⟩ := id (V54)
  obtain ⟨_, _, ⟨T58, Lq58, kq58, nq58⟩, -, X58, ⟨Lc58, hQ58, lq58, yq58, zq58⟩, st58⟩ := Jvm.LawKit.callS X56 hx (y := (⟨"java/lang/Long", "numberOfLeadingZeros", "(J)I"⟩ : MethodName)) hown (mvT hZ (hw _ (own_w 21 rfl))) (mvT hZ (hw _ (own_w 22 rfl))) (mvT hZ (hw _ (own_w 23 rfl))) (mvT hZ (hw _ (own_w 24 rfl))) (by decide) (backOf (W := 1) (rmZ8 l Z a0 hw []   h54 n0 Z54 ) hZ (hw _ (own_w 24 rfl)) (hw _ (own_w 23 rfl)) (by decide) (by decide)) (g := (mkF m 42 #[.val (.ref a1), .val (.int (8 : Int32)), .val (.int (16 : Int32))] [(.long (8 : Int64)), (.ref a1)])) rfl (by rw [hml]; rfl) (argsL := [(.long (8 : Int64))]) (rest := [(.ref a1)]) (lenOf pd_1 rfl) rfl (by show 2 * 0 + _ ≤ _; exact Nat.le_of_eq rfl) (hb hby d3_42) (fun _ _ => ⟨rfl, e56, (by decide : 1 + 0 ≤ _), (by decide : 16 + 0 ≤ _)⟩)
  dsimp only [Pt.U, Pt.locs, Pt.cells, Pt.slots] at X58 lq58 yq58 zq58 st58 hQ58
  subst lq58 yq58 zq58
  obtain ⟨r58, hr58, rfl, N58q, e58⟩ := hQ58
  have N58 := Fr.app N54 N58q
  subst hr58
  have f59 := (((((((((f4.wr W6).wr W12).wr W18).wr W24).wr W30).wr W36).wr W42).wr W48).wr W54)
  have f60 := ((((((((((F_shift.ext E2).other W6 (Or.inr (slot_ne (Or.inl (hw _ (own_w 31 rfl))) (Or.inl (hw _ (own_w 19 rfl))) (by decide) (t := .int) (t' := (.array .long)) (by decide) (by decide)))).other W12 (Or.inl ne3)).other W18 (Or.inl ne3)).other W24 (Or.inl ne3)).other W30 (Or.inl ne3)).other W36 (Or.inl ne3)).other W42 (Or.inl ne3)).other W48 (Or.inl ne3)).other W54 (Or.inl ne3))
  obtain ⟨T61, h61, X61, e61, W61, st61⟩ := putF X58 hx hZ hown (host := "") (Or.inl (hw _ (own_w 30 rfl))) Via.refl e58 f60 f59 (Or.inl (hw _ (own_w 31 rfl))) (hw _ (own_w 6 rfl)) (ty := .int) (by decide) rfl rfl (g := (mkF m 47 #[.val (.ref a1), .val (.int (8 : Int32)), .val (.int (16 : Int32))] [(.int (61 : Int32)), (.ref a1)])) rfl rfl (hb hby d3_47)
  have N61 := Fr.snoc X61 N58 ga
  have Z61 : n0 ≤ h61.size := by rw [W61.size]; exact Z54
  have K61 : Keep h0 h61 [a1] := K54.wr W61 (Or.inl (own_w 0 rfl))
  have Fw61 := f60.same W61
  obtain ⟨fs, hr, hrun, hended, hW, hsame⟩ := X61.leave (v := none) (fun _ => rfl) (BodyLoose.notSynchronized Bd)
  refine ⟨_, _, pre0 _ ?_, hrun, hended, _, _, rfl, ?_, ⟨_, rfl⟩, hW, hsame.mono (by decide) (by decide)⟩
  · show Steps p.tables e below (s₁.setTop (mkF m 0 #[.val (.ref a1), .val (.int (8 : Int32)), .unset] [])) _
    refine XS.aloadN X0.here hx rfl (hb hby d3_0) rfl rfl ?_
    refine st1 _ ?_
    refine XS.aloadN X1.here hx rfl (hb hby d3_4) rfl rfl ?_
    refine XS.iconst X1.here hx rfl (hb hby d3_5) ?_
    refine XS.iloadN X1.here hx rfl (hb hby d3_6) rfl ?_
    refine XS.imul X1.here hx rfl (hb hby d3_7) rfl ?_
    refine st2 _ ?_
    refine st6 _ ?_
    refine XS.iconst X6.here hx rfl (hb hby d3_13) ?_
    refine XS.istoreN X6.here hx rfl (hb hby d3_14) rfl (l' := #[.val (.ref a1), .val (.int (8 : Int32)), .val (.int (0 : Int32))]) rfl ?_
    refine XS.iloadN X6.here hx rfl (hb hby d3_15) rfl ?_
    refine XS.aloadN X6.here hx rfl (hb hby d3_16) rfl rfl ?_
    refine st7 _ ?_
    refine X7.arraylength hx (by rw [e7]; exact Ar9.1) (State.isArrayOf_alike hZ.alike Ar9.2.1) (g := (mkF m 20 #[.val (.ref a1), .val (.int (8 : Int32)), .val (.int (0 : Int32))] [(.ref b2o), (.int (0 : Int32))])) rfl rfl (hb hby d3_20) _ ?_
    rw [len_of Sz9 Nn9]
    show Steps p.tables e below (T7.setTop (mkF m 21 #[.val (.ref a1), .val (.int (8 : Int32)), .val (.int (0 : Int32))] [(.int (16 : Int32)), (.int (0 : Int32))])) _
    refine XS.icmpNo X7.here hx rfl (hb hby d3_21) rfl (tlt (by decide)).2.1 ?_
    refine XS.aloadN X7.here hx rfl (hb hby d3_24) rfl rfl ?_
    refine st10 _ ?_
    refine XS.iloadN X10.here hx rfl (hb hby d3_28) rfl ?_
    refine X10.ldc2Long hx hown (mvT hZ (hw _ (own_w 20 rfl))) (g := (mkF m 29 #[.val (.ref a1), .val (.int (8 : Int32)), .val (.int (0 : Int32))] [(.int (0 : Int32)), (.ref b2o)])) rfl (hb hby d3_29) _ ?_
    refine st12 _ ?_
    refine XS.iinc X12.here hx rfl (hb hby d3_33) rfl (l' := #[.val (.ref a1), .val (.int (8 : Int32)), .val (.int (2 : Int32))]) rfl ?_
    refine XS.goto X12.here hx rfl (pc0 := 36) (pc' := 15) rfl (hb hby d3_36) (by decide) (by decide) ?_
    refine XS.iloadN X12.here hx rfl (hb hby d3_15) rfl ?_
    refine XS.aloadN X12.here hx rfl (hb hby d3_16) rfl rfl ?_
    refine st14 _ ?_
    refine X14.arraylength hx (by rw [e14]; exact Ar15.1) (State.isArrayOf_alike hZ.alike Ar15.2.1) (g := (mkF m 20 #[.val (.ref a1), .val (.int (8 : Int32)), .val (.int (2 : Int32))] [(.ref b2o), (.int (2 : Int32))])) rfl rfl (hb hby d3_20) _ ?_
    rw [len_of Sz15 Nn15]
    show Steps p.tables e below (T14.setTop (mkF m 21 #[.val (.ref a1), .val (.int (8 : Int32)), .val (.int (2 : Int32))] [(.int (16 : Int32)), (.int (2 : Int32))])) _
    refine XS.icmpNo X14.here hx rfl (hb hby d3_21) rfl (tlt (by decide)).2.1 ?_
    refine XS.aloadN X14.here hx rfl (hb hby d3_24) rfl rfl ?_
    refine st16 _ ?_
    refine XS.iloadN X16.here hx rfl (hb hby d3_28) rfl ?_
    refine X16.ldc2Long hx hown (mvT hZ (hw _ (own_w 20 rfl))) (g := (mkF m 29 #[.val (.ref a1), .val (.int (8 : Int32)), .val (.int (2 : Int32))] [(.int (2 : Int32)), (.ref b2o)])) rfl (hb hby d3_29) _ ?_
    refine st18 _ ?_
    refine XS.iinc X18.here hx rfl (hb hby d3_33) rfl (l' := #[.val (.ref a1), .val (.int (8 : Int32)), .val (.int (4 : Int32))]) rfl ?_
    refine XS.goto X18.here hx rfl (pc0 := 36) (pc' := 15) rfl (hb hby d3_36) (by decide) (by decide) ?_
    refine XS.iloadN X18.here hx rfl (hb hby d3_15) rfl ?_
    refine XS.aloadN X18.here hx rfl (hb hby d3_16) rfl rfl ?_
    refine st20 _ ?_
    refine X20.arraylength hx (by rw [e20]; exact Ar21.1) (State.isArrayOf_alike hZ.alike Ar21.2.1) (g := (mkF m 20 #[.val (.ref a1), .val (.int (8 : Int32)), .val (.int (4 : Int32))] [(.ref b2o), (.int (4 : Int32))])) rfl rfl (hb hby d3_20) _ ?_
    rw [len_of Sz21 Nn21]
    show Steps p.tables e below (T20.setTop (mkF m 21 #[.val (.ref a1), .val (.int (8 : Int32)), .val (.int (4 : Int32))] [(.int (16 : Int32)), (.int (4 : Int32))])) _
    refine XS.icmpNo X20.here hx rfl (hb hby d3_21) rfl (tlt (by decide)).2.1 ?_
    refine XS.aloadN X20.here hx rfl (hb hby d3_24) rfl rfl ?_
    refine st22 _ ?_
    refine XS.iloadN X22.here hx rfl (hb hby d3_28) rfl ?_
    refine X22.ldc2Long hx hown (mvT hZ (hw _ (own_w 20 rfl))) (g := (mkF m 29 #[.val (.ref a1), .val (.int (8 : Int32)), .val (.int (4 : Int32))] [(.int (4 : Int32)), (.ref b2o)])) rfl (hb hby d3_29) _ ?_
    refine st24 _ ?_
    refine XS.iinc X24.here hx rfl (hb hby d3_33) rfl (l' := #[.val (.ref a1), .val (.int (8 : Int32)), .val (.int (6 : Int32))]) rfl ?_
    refine XS.goto X24.here hx rfl (pc0 := 36) (pc' := 15) rfl (hb hby d3_36) (by decide) (by decide) ?_
    refine XS.iloadN X24.here hx rfl (hb hby d3_15) rfl ?_
    refine XS.aloadN X24.here hx rfl (hb hby d3_16) rfl rfl ?_
    refine st26 _ ?_
    refine X26.arraylength hx (by rw [e26]; exact Ar27.1) (State.isArrayOf_alike hZ.alike Ar27.2.1) (g := (mkF m 20 #[.val (.ref a1), .val (.int (8 : Int32)), .val (.int (6 : Int32))] [(.ref b2o), (.int (6 : Int32))])) rfl rfl (hb hby d3_20) _ ?_
    rw [len_of Sz27 Nn27]
    show Steps p.tables e below (T26.setTop (mkF m 21 #[.val (.ref a1), .val (.int (8 : Int32)), .val (.int (6 : Int32))] [(.int (16 : Int32)), (.int (6 : Int32))])) _
    refine XS.icmpNo X26.here hx rfl (hb hby d3_21) rfl (tlt (by decide)).2.1 ?_
    refine XS.aloadN X26.here hx rfl (hb hby d3_24) rfl rfl ?_
    refine st28 _ ?_
    refine XS.iloadN X28.here hx rfl (hb hby d3_28) rfl ?_
    refine X28.ldc2Long hx hown (mvT hZ (hw _ (own_w 20 rfl))) (g := (mkF m 29 #[.val (.ref a1), .val (.int (8 : Int32)), .val (.int (6 : Int32))] [(.int (6 : Int32)), (.ref b2o)])) rfl (hb hby d3_29) _ ?_
    refine st30 _ ?_
    refine XS.iinc X30.here hx rfl (hb hby d3_33) rfl (l' := #[.val (.ref a1), .val (.int (8 : Int32)), .val (.int (8 : Int32))]) rfl ?_
    refine XS.goto X30.here hx rfl (pc0 := 36) (pc' := 15) rfl (hb hby d3_36) (by decide) (by decide) ?_
    refine XS.iloadN X30.here hx rfl (hb hby d3_15) rfl ?_
    refine XS.aloadN X30.here hx rfl (hb hby d3_16) rfl rfl ?_
    refine st32 _ ?_
    refine X32.arraylength hx (by rw [e32]; exact Ar33.1) (State.isArrayOf_alike hZ.alike Ar33.2.1) (g := (mkF m 20 #[.val (.ref a1), .val (.int (8 : Int32)), .val (.int (8 : Int32))] [(.ref b2o), (.int (8 : Int32))])) rfl rfl (hb hby d3_20) _ ?_
    rw [len_of Sz33 Nn33]
    show Steps p.tables e below (T32.setTop (mkF m 21 #[.val (.ref a1), .val (.int (8 : Int32)), .val (.int (8 : Int32))] [(.int (16 : Int32)), (.int (8 : Int32))])) _
    refine XS.icmpNo X32.here hx rfl (hb hby d3_21) rfl (tlt (by decide)).2.1 ?_
    refine XS.aloadN X32.here hx rfl (hb hby d3_24) rfl rfl ?_
    refine st34 _ ?_
    refine XS.iloadN X34.here hx rfl (hb hby d3_28) rfl ?_
    refine X34.ldc2Long hx hown (mvT hZ (hw _ (own_w 20 rfl))) (g := (mkF m 29 #[.val (.ref a1), .val (.int (8 : Int32)), .val (.int (8 : Int32))] [(.int (8 : Int32)), (.ref b2o)])) rfl (hb hby d3_29) _ ?_
    refine st36 _ ?_
    refine XS.iinc X36.here hx rfl (hb hby d3_33) rfl (l' := #[.val (.ref a1), .val (.int (8 : Int32)), .val (.int (10 : Int32))]) rfl ?_
    refine XS.goto X36.here hx rfl (pc0 := 36) (pc' := 15) rfl (hb hby d3_36) (by decide) (by decide) ?_
    refine XS.iloadN X36.here hx rfl (hb hby d3_15) rfl ?_
    refine XS.aloadN X36.here hx rfl (hb hby d3_16) rfl rfl ?_
    refine st38 _ ?_
    refine X38.arraylength hx (by rw [e38]; exact Ar39.1) (State.isArrayOf_alike hZ.alike Ar39.2.1) (g := (mkF m 20 #[.val (.ref a1), .val (.int (8 : Int32)), .val (.int (10 : Int32))] [(.ref b2o), (.int (10 : Int32))])) rfl rfl (hb hby d3_20) _ ?_
    rw [len_of Sz39 Nn39]
    show Steps p.tables e below (T38.setTop (mkF m 21 #[.val (.ref a1), .val (.int (8 : Int32)), .val (.int (10 : Int32))] [(.int (16 : Int32)), (.int (10 : Int32))])) _
    refine XS.icmpNo X38.here hx rfl (hb hby d3_21) rfl (tlt (by decide)).2.1 ?_
    refine XS.aloadN X38.here hx rfl (hb hby d3_24) rfl rfl ?_
    refine st40 _ ?_
    refine XS.iloadN X40.here hx rfl (hb hby d3_28) rfl ?_
    refine X40.ldc2Long hx hown (mvT hZ (hw _ (own_w 20 rfl))) (g := (mkF m 29 #[.val (.ref a1), .val (.int (8 : Int32)), .val (.int (10 : Int32))] [(.int (10 : Int32)), (.ref b2o)])) rfl (hb hby d3_29) _ ?_
    refine st42 _ ?_
    refine XS.iinc X42.here hx rfl (hb hby d3_33) rfl (l' := #[.val (.ref a1), .val (.int (8 : Int32)), .val (.int (12 : Int32))]) rfl ?_
    refine XS.goto X42.here hx rfl (pc0 := 36) (pc' := 15) rfl (hb hby d3_36) (by decide) (by decide) ?_
    refine XS.iloadN X42.here hx rfl (hb hby d3_15) rfl ?_
    refine XS.aloadN X42.here hx rfl (hb hby d3_16) rfl rfl ?_
    refine st44 _ ?_
    refine X44.arraylength hx (by rw [e44]; exact Ar45.1) (State.isArrayOf_alike hZ.alike Ar45.2.1) (g := (mkF m 20 #[.val (.ref a1), .val (.int (8 : Int32)), .val (.int (12 : Int32))] [(.ref b2o), (.int (12 : Int32))])) rfl rfl (hb hby d3_20) _ ?_
    rw [len_of Sz45 Nn45]
    show Steps p.tables e below (T44.setTop (mkF m 21 #[.val (.ref a1), .val (.int (8 : Int32)), .val (.int (12 : Int32))] [(.int (16 : Int32)), (.int (12 : Int32))])) _
    refine XS.icmpNo X44.here hx rfl (hb hby d3_21) rfl (tlt (by decide)).2.1 ?_
    refine XS.aloadN X44.here hx rfl (hb hby d3_24) rfl rfl ?_
    refine st46 _ ?_
    refine XS.iloadN X46.here hx rfl (hb hby d3_28) rfl ?_
    refine X46.ldc2Long hx hown (mvT hZ (hw _ (own_w 20 rfl))) (g := (mkF m 29 #[.val (.ref a1), .val (.int (8 : Int32)), .val (.int (12 : Int32))] [(.int (12 : Int32)), (.ref b2o)])) rfl (hb hby d3_29) _ ?_
    refine st48 _ ?_
    refine XS.iinc X48.here hx rfl (hb hby d3_33) rfl (l' := #[.val (.ref a1), .val (.int (8 : Int32)), .val (.int (14 : Int32))]) rfl ?_
    refine XS.goto X48.here hx rfl (pc0 := 36) (pc' := 15) rfl (hb hby d3_36) (by decide) (by decide) ?_
    refine XS.iloadN X48.here hx rfl (hb hby d3_15) rfl ?_
    refine XS.aloadN X48.here hx rfl (hb hby d3_16) rfl rfl ?_
    refine st50 _ ?_
    refine X50.arraylength hx (by rw [e50]; exact Ar51.1) (State.isArrayOf_alike hZ.alike Ar51.2.1) (g := (mkF m 20 #[.val (.ref a1), .val (.int (8 : Int32)), .val (.int (14 : Int32))] [(.ref b2o), (.int (14 : Int32))])) rfl rfl (hb hby d3_20) _ ?_
    rw [len_of Sz51 Nn51]
    show Steps p.tables e below (T50.setTop (mkF m 21 #[.val (.ref a1), .val (.int (8 : Int32)), .val (.int (14 : Int32))] [(.int (16 : Int32)), (.int (14 : Int32))])) _
    refine XS.icmpNo X50.here hx rfl (hb hby d3_21) rfl (tlt (by decide)).2.1 ?_
    refine XS.aloadN X50.here hx rfl (hb hby d3_24) rfl rfl ?_
    refine st52 _ ?_
    refine XS.iloadN X52.here hx rfl (hb hby d3_28) rfl ?_
    refine X52.ldc2Long hx hown (mvT hZ (hw _ (own_w 20 rfl))) (g := (mkF m 29 #[.val (.ref a1), .val (.int (8 : Int32)), .val (.int (14 : Int32))] [(.int (14 : Int32)), (.ref b2o)])) rfl (hb hby d3_29) _ ?_
    refine st54 _ ?_
    refine XS.iinc X54.here hx rfl (hb hby d3_33) rfl (l' := #[.val (.ref a1), .val (.int (8 : Int32)), .val (.int (16 : Int32))]) rfl ?_
    refine XS.goto X54.here hx rfl (pc0 := 36) (pc' := 15) rfl (hb hby d3_36) (by decide) (by decide) ?_
    refine XS.iloadN X54.here hx rfl (hb hby d3_15) rfl ?_
    refine XS.aloadN X54.here hx rfl (hb hby d3_16) rfl rfl ?_
    refine st56 _ ?_
    refine X56.arraylength hx (by rw [e56]; exact Ar57.1) (State.isArrayOf_alike hZ.alike Ar57.2.1) (g := (mkF m 20 #[.val (.ref a1), .val (.int (8 : Int32)), .val (.int (16 : Int32))] [(.ref b2o), (.int (16 : Int32))])) rfl rfl (hb hby d3_20) _ ?_
    rw [len_of Sz57 Nn57]
    show Steps p.tables e below (T56.setTop (mkF m 21 #[.val (.ref a1), .val (.int (8 : Int32)), .val (.int (16 : Int32))] [(.int (16 : Int32)), (.int (16 : Int32))])) _
    refine XS.icmpYes X56.here hx rfl (pc0 := 21) (pc' := 39) rfl (hb hby d3_21) rfl (flt (by decide)).2.1 (by decide) (by decide) ?_
    refine XS.aloadN X56.here hx rfl (hb hby d3_39) rfl rfl ?_
    refine XS.iloadN X56.here hx rfl (hb hby d3_40) rfl ?_
    refine XS.i2l X56.here hx rfl (hb hby d3_41) rfl ?_
    refine st58 _ ?_
    refine XS.iconst X58.here hx rfl (hb hby d3_45) ?_
    refine XS.iadd X58.here hx rfl (hb hby d3_46) rfl ?_
    refine st61 _ ?_
    show Steps p.tables e below (T61.setTop (mkF m 50 #[.val (.ref a1), .val (.int (8 : Int32)), .val (.int (16 : Int32))] [])) _
    exact X61.returnOut hx Bd.returns (hb hby d3_50) hr
  · show QrmI8 Z a1 h0 n0 _ T61.heap _
    have f62 := (f59.wr W61)
    have f63 := (f55.other W61 (Or.inr (slot_ne (Or.inl (hw _ (own_w 19 rfl))) (Or.inl (hw _ (own_w 31 rfl))) (by decide) (t := (.array .long)) (t' := .int) (by decide) (by decide))))
    have f64 := (((((((((((F_size.ext E2).other W6 (Or.inr (slot_ne (Or.inl (hw _ (own_w 48 rfl))) (Or.inl (hw _ (own_w 19 rfl))) (by decide) (t := .int) (t' := (.array .long)) (by decide) (by decide)))).other W12 (Or.inl ne3)).other W18 (Or.inl ne3)).other W24 (Or.inl ne3)).other W30 (Or.inl ne3)).other W36 (Or.inl ne3)).other W42 (Or.inl ne3)).other W48 (Or.inl ne3)).other W54 (Or.inl ne3)).other W61 (Or.inr (slot_ne (Or.inl (hw _ (own_w 48 rfl))) (Or.inl (hw _ (own_w 31 rfl))) (by decide) (t := .int) (t' := .int) (by decide) (by decide))))
    have f65 := (((((((((((F_sorted.ext E2).other W6 (Or.inr (slot_ne (Or.inl (hw _ (own_w 46 rfl))) (Or.inl (hw _ (own_w 19 rfl))) (by decide) (t := (.array .long)) (t' := (.array .long)) (by decide) (by decide)))).other W12 (Or.inl ne3)).other W18 (Or.inl ne3)).other W24 (Or.inl ne3)).other W30 (Or.inl ne3)).other W36 (Or.inl ne3)).other W42 (Or.inl ne3)).other W48 (Or.inl ne3)).other W54 (Or.inl ne3)).other W61 (Or.inr (slot_ne (Or.inl (hw _ (own_w 46 rfl))) (Or.inl (hw _ (own_w 31 rfl))) (by decide) (t := (.array .long)) (t' := .int) (by decide) (by decide))))
    have f66 := (V54.other W61 (Ne.symm ne3))
    rw [e61]
    exact ⟨rfl, N61, K61, b2o, _, b2, bk2, f62, f63, Fw61, f64, f65, f66⟩
theorem pd_2 : parseMethodDescriptor "(I)V" = some ⟨[.int], none⟩ := by decide +kernel
theorem d2_0 : decode prog_19_method_1_code 0 = .ok (.aload_n 0, 1) := by decide +kernel
theorem d2_1 : decode prog_19_method_1_code 1 = .ok (.iconst 4, 1) := by decide +kernel
theorem d2_2 : decode prog_19_method_1_code 2 = .ok (.invokespecial 5, 3) := by decide +kernel
theorem d2_5 : decode prog_19_method_1_code 5 = .ok (.return_, 1) := by decide +kernel
theorem pn_2 : plainName "com/example/pricewright/pricewright/core/LongSumTable" = true := by first | (simp [plainName, overriddenIn]; done) | decide +kernel
theorem ef_rmI0 (m : MethodId) (a1 : Addr) : entryFrame m #[(.ref a1)] 1 = mkF m 0 #[.val (.ref a1)] [] := by first | (simp [entryFrame, mkF, argsToLocals, Value.category]; done) | rfl
def QrmI0 (Z : State) (a1 : Addr) (h0 : Heap) (n0 : Nat) (v : Option Value) (h : Heap) (L : List Loc) : Prop := v = none ∧ Fr n0 L ∧ Keep h0 h [a1] ∧ ∃ (sa : Addr) (sk : ClassId), n0 ≤ sa ∧ h0.size ≤ sa ∧ Exa Z h a1 "com/example/pricewright/pricewright/core/LongSumTable" ∧ Fld Z h a1 "com/example/pricewright/pricewright/core/LongSumTable" "slots" "[J" (.ref sa) ∧ Fld Z h a1 "com/example/pricewright/pricewright/core/LongSumTable" "shift" "I" (.int (62 : Int32)) ∧ Fld Z h a1 "com/example/pricewright/pricewright/core/LongSumTable" "size" "I" (.int (0 : Int32)) ∧ Fld Z h a1 "com/example/pricewright/pricewright/core/LongSumTable" "sorted" "[J" .null ∧ Arv Z h sa sk .long (8 : Int32) (own_new4.map Value.long) (.long (0 : Int64))
set_option maxRecDepth 65536 in
set_option maxHeartbeats 40000000 in
theorem rmI0 (l : Launch) (Z : State) (a0 : Array Value) (hw : ∀ d ∈ tables_1, d.before a0 Z = true) (ws : List Jvm.Cond) (a1 : Addr) (h0 : Heap) (n0 : Nat) (Z0 : n0 ≤ h0.size) (E : Exa Z h0 a1 "com/example/pricewright/pricewright/core/LongSumTable") (F_slots : Fld Z h0 a1 "com/example/pricewright/pricewright/core/LongSumTable" "slots" "[J" .null) (F_shift : Fld Z h0 a1 "com/example/pricewright/pricewright/core/LongSumTable" "shift" "I" (.int (0 : Int32))) (F_size : Fld Z h0 a1 "com/example/pricewright/pricewright/core/LongSumTable" "size" "I" (.int (0 : Int32))) (F_sorted : Fld Z h0 a1 "com/example/pricewright/pricewright/core/LongSumTable" "sorted" "[J" .null) (ga : n0 ≤ a1) :
    MetFree l (⟨"com/example/pricewright/pricewright/core/LongSumTable", "<init>", "()V"⟩ : MethodName) (head1 (Jvm.Cond.code (⟨"com/example/pricewright/pricewright/core/LongSumTable", "<init>", "()V"⟩ : MethodName) prog_19_method_1_code 1 none :: ws) ({ frames := 3, cells := 1, slots := 8, locals := 43 } : Room)) (fun a U => a = #[(.ref a1)] ∧ Z.Warmed39 U.vm ∧ U.heap = h0) (fun _ _ _ _ _ => True) (fun _ U o U' => ∃ v L, o = .returned v ∧ QrmI0 Z a1 h0 n0 v U'.heap L ∧ FrameEnd U o U' L ({ frames := 3, cells := 1, slots := 8, locals := 43 } : Room).cells ({ frames := 3, cells := 1, slots := 8, locals := 43 } : Room).slots) := by
  refine MetFree.of_bodySF (plainFor_of_name pn_2) hisR ?_
  intro p e s m args below meth c s₁ Bd hml0 hP hK
  obtain ⟨rfl, hZ, hh⟩ := hP
  have hx := Bd.exec
  have hby := Bd.bytes
  have hml : c.maxLocals = 1 := hml0
  have hown : s.vm.findClass "com/example/pricewright/pricewright/core/LongSumTable" = some m.cls := findClass_of_methodNamed Bd.named
  have hnm := (name_of_methodNamed Bd.named Bd.method).1
  have X0 : Stand p l e ({ frames := 3, cells := 1, slots := 8, locals := 43 } : Room) s m #[(.ref a1)] below meth c s₁ [] 0 0 := Stand.of_body Bd
  have e0 : s₁.heap = h0 := by rw [← hh, Bd.state]; rfl
  have N0 := Fr.nil n0
  have pre0 : ∀ t, Steps p.tables e below (s₁.setTop (mkF m 0 #[.val (.ref a1)] [])) t → Steps p.tables e below (s₁.setTop (entryFrame m #[(.ref a1)] 1)) t := fun t k => castTop (ef_rmI0 m a1) k
  obtain ⟨_, _, ⟨T1, Lq1, kq1, nq1⟩, -, X1, ⟨Lc1, hQ1, lq1, yq1, zq1⟩, st1⟩ := X0.specialBack hx (y := (⟨"com/example/pricewright/pricewright/core/LongSumTable", "<init>", "(I)V"⟩ : MethodName)) rfl hown (mvT hZ (hw _ (own_w 11 rfl))) (mvT hZ (hw _ (own_w 12 rfl))) (mvT hZ (hw _ (own_w 13 rfl))) (by decide) (backOf (W := 0) (rmI4 l Z a0 hw [] a1  h0 n0 Z0 E F_slots F_shift F_size F_sorted ga) hZ (hw _ (own_w 13 rfl)) (hw _ (own_w 7 rfl)) (by decide) (by decide)) (g := (mkF m 2 #[.val (.ref a1)] [(.int (4 : Int32)), (.ref a1)])) rfl (by rw [hml]; rfl) (Steps.refl _) (a := a1) (argsL := [(.int (4 : Int32))]) (rest := []) (lenOf pd_2 rfl) rfl (by show 2 * 0 + _ ≤ _; exact Nat.le_of_eq rfl) (hb hby d2_2) (fun _ _ => ⟨rfl, e0, (by decide : 0 + 1 ≤ _), (by decide : 0 + 8 ≤ _)⟩)
  dsimp only [Pt.U, Pt.locs, Pt.cells, Pt.slots] at X1 lq1 yq1 zq1 st1 hQ1
  subst lq1 yq1 zq1
  obtain ⟨rfl, N1q, KC1, u1⟩ := hQ1
  have N1 := Fr.app N0 N1q
  have Z1 : n0 ≤ T1.heap.size := Nat.le_trans Z0 KC1.1
  have K1 : Keep h0 T1.heap [a1] := (Keep.refl h0 [a1]).trans KC1 (allS (Or.inl (own_w 0 rfl)) all0)
  obtain ⟨sa1, sk1, ga1, gk1, EI1, FS1, FH1, FZ1, FQ1, AV1⟩ := id u1
  have net1 : a1 ≠ sa1 := ne_arrV (EI1) (hw _ (own_w 6 rfl)) AV1
  obtain ⟨fs, hr, hrun, hended, hW, hsame⟩ := X1.leave (v := none) (fun _ => rfl) (BodyLoose.notSynchronized Bd)
  refine ⟨_, _, pre0 _ ?_, hrun, hended, _, _, rfl, ?_, ⟨_, rfl⟩, hW, hsame.mono (by decide) (by decide)⟩
  · show Steps p.tables e below (s₁.setTop (mkF m 0 #[.val (.ref a1)] [])) _
    refine XS.aloadN X0.here hx rfl (hb hby d2_0) rfl rfl ?_
    refine XS.iconst X0.here hx rfl (hb hby d2_1) ?_
    refine st1.trans ?_
    show Steps p.tables e below (T1.setTop (mkF m 5 #[.val (.ref a1)] [])) _
    exact X1.returnOut hx Bd.returns (hb hby d2_5) hr
  · show QrmI0 Z a1 h0 n0 _ T1.heap _
    exact ⟨rfl, N1, K1, u1⟩
theorem d9_23 : decode prog_19_method_8_code 23 = .ok (.aload_n 0, 1) := by decide +kernel
theorem d9_24 : decode prog_19_method_8_code 24 = .ok (.getfield 14, 3) := by decide +kernel
theorem d9_27 : decode prog_19_method_8_code 27 = .ok (.iload 4, 2) := by decide +kernel
theorem d9_29 : decode prog_19_method_8_code 29 = .ok (.laload, 1) := by decide +kernel
theorem d9_30 : decode prog_19_method_8_code 30 = .ok (.lload_n 1, 1) := by decide +kernel
theorem d9_31 : decode prog_19_method_8_code 31 = .ok (.lcmp, 1) := by decide +kernel
theorem d9_32 : decode prog_19_method_8_code 32 = .ok (.ifCond .eq 28, 3) := by decide +kernel
theorem d9_35 : decode prog_19_method_8_code 35 = .ok (.aload_n 0, 1) := by decide +kernel
theorem d9_36 : decode prog_19_method_8_code 36 = .ok (.getfield 14, 3) := by decide +kernel
theorem d9_39 : decode prog_19_method_8_code 39 = .ok (.iload 4, 2) := by decide +kernel
theorem d9_41 : decode prog_19_method_8_code 41 = .ok (.laload, 1) := by decide +kernel
theorem d9_42 : decode prog_19_method_8_code 42 = .ok (.ldc2_w 18, 3) := by decide +kernel
theorem d9_45 : decode prog_19_method_8_code 45 = .ok (.lcmp, 1) := by decide +kernel
theorem d9_46 : decode prog_19_method_8_code 46 = .ok (.ifCond .eq 14, 3) := by decide +kernel
theorem d9_49 : decode prog_19_method_8_code 49 = .ok (.iload 4, 2) := by decide +kernel
theorem d9_51 : decode prog_19_method_8_code 51 = .ok (.iconst 2, 1) := by decide +kernel
theorem d9_52 : decode prog_19_method_8_code 52 = .ok (.iadd, 1) := by decide +kernel
theorem d9_53 : decode prog_19_method_8_code 53 = .ok (.iload_n 3, 1) := by decide +kernel
theorem d9_54 : decode prog_19_method_8_code 54 = .ok (.iand, 1) := by decide +kernel
theorem d9_55 : decode prog_19_method_8_code 55 = .ok (.istore 4, 2) := by decide +kernel
theorem d9_57 : decode prog_19_method_8_code 57 = .ok (.goto (-34), 3) := by decide +kernel
set_option maxRecDepth 65536 in
set_option maxHeartbeats 40000000 in
theorem own_lp {p : Program} {l : Launch} {e : Env} {R : Room} {s : State} {m : MethodId} {args : Array Value} {below : List Frame} {meth : Method} {c : Code} {locs : List Loc} {cells slots : Nat} {Z : State} {a0 : Array Value} {h0 : Heap} {a1 : Addr} {q2 : Int64} {a : Addr} {k : ClassId} {arr : List Int64} {n : Nat} (hx : p.tables.exec = Jvm.exec) (hZ : Z.Warmed39 s.vm) (hw : ∀ d ∈ tables_1, d.before a0 Z = true) (hby : c.code = prog_19_method_8_code) (hml : c.maxLocals = 5) (hown : s.vm.findClass "com/example/pricewright/pricewright/core/LongSumTable" = some m.cls) (hn : n = 4 ∨ n = 8) (FS : Fld Z h0 a1 "com/example/pricewright/pricewright/core/LongSumTable" "slots" "[J" (.ref a)) (AV : Arv Z h0 a k .long (Int32.ofNat (2 * n)) (arr.map Value.long) (.long (0 : Int64))) (f : Nat) :
    ∀ (T0 : State) (i : Nat), i < n → own_K arr ((i + f) % n) = own_FREE → Stand p l e R s m args below meth c T0 locs cells slots → T0.heap = h0 → ∃ (T' : State) (i' : Nat), i' < n ∧ own_Idx (own_K arr) n i q2 i' ∧ Stand p l e R s m args below meth c T' locs cells slots ∧ T'.heap = h0 ∧ ∀ target, Steps p.tables e below (T'.setTop (mkF m 60 #[.val (.ref a1), .val (.long q2), .second, .val (.int ((Int32.ofNat (2 * n)) - (1 : Int32))), .val (.int (own_p i'))] [])) target → Steps p.tables e below (T0.setTop (mkF m 23 #[.val (.ref a1), .val (.long q2), .second, .val (.int ((Int32.ofNat (2 * n)) - (1 : Int32))), .val (.int (own_p i))] [])) target := by
  induction f with
  | zero =>
    intro T0 i hi hfr X0 e0
    obtain ⟨T1, X1, e1, st1⟩ := getF X0 hx hZ hown (host := "") (Or.inl (hw _ (own_w 18 rfl))) Via.refl e0 FS (g := (mkF m 24 #[.val (.ref a1), .val (.long q2), .second, .val (.int ((Int32.ofNat (2 * n)) - (1 : Int32))), .val (.int (own_p i))] [(.ref a1)])) rfl rfl (hb hby d9_24)
    obtain ⟨cl2, Ar2, qk2, Sz2, Nn2, Hh2, Gg2⟩ := id (AV)
    have hin3 : ¬ ((own_p i) < 0 ∨ cl2.slots.size ≤ ((own_p i)).toNatClampNeg) := inb_of Sz2 ⟨own_p0 (own_lt8 hi hn), own_plt hi hn⟩
    have hat3 : cl2.slots[((own_p i)).toNatClampNeg]? = some (.long (own_K arr i)) := Has.at Hh2 hin3 (own_ldK arr (own_lt8 hi hn))
    by_cases hc32 : (own_K arr i) = q2
    · refine ⟨T1, i, hi, ⟨0, by rw [Nat.add_zero, Nat.mod_eq_of_lt hi], fun e he => absurd he (Nat.not_lt_zero e), Or.inl hc32⟩, X1, e1, fun target kt => ?_⟩
      show Steps p.tables e below (T0.setTop (mkF m 23 #[.val (.ref a1), .val (.long q2), .second, .val (.int ((Int32.ofNat (2 * n)) - (1 : Int32))), .val (.int (own_p i))] [])) _
      refine XS.aloadN X0.here hx rfl (hb hby d9_23) rfl rfl ?_
      refine st1 _ ?_
      refine XS.iload X1.here hx rfl (hb hby d9_27) rfl ?_
      refine X1.laload hx (j := (own_p i)) (v := (.long (own_K arr i))) (by rw [e1]; exact Ar2.1) (State.isArrayOf_alike hZ.alike Ar2.2.1) Ar2.2.2 hin3 hat3 (g := (mkF m 29 #[.val (.ref a1), .val (.long q2), .second, .val (.int ((Int32.ofNat (2 * n)) - (1 : Int32))), .val (.int (own_p i))] [(.int (own_p i)), (.ref a)])) rfl rfl (hb hby d9_29) _ ?_
      refine XS.lloadN X1.here hx rfl (hb hby d9_30) rfl ?_
      refine XS.lcmp X1.here hx rfl (hb hby d9_31) rfl ?_
      refine XS.ifYes X1.here hx rfl (pc0 := 32) (pc' := 60) rfl (hb hby d9_32) rfl ((if0 _ _).trans (teq (own_lceq hc32)).1) (by decide) (by decide) ?_
      exact kt
    · obtain ⟨T4, X4, e4, st4⟩ := getF X1 hx hZ hown (host := "") (Or.inl (hw _ (own_w 18 rfl))) Via.refl e1 FS (g := (mkF m 36 #[.val (.ref a1), .val (.long q2), .second, .val (.int ((Int32.ofNat (2 * n)) - (1 : Int32))), .val (.int (own_p i))] [(.ref a1)])) rfl rfl (hb hby d9_36)
      obtain ⟨cl5, Ar5, qk5, Sz5, Nn5, Hh5, Gg5⟩ := id (AV)
      have hin6 : ¬ ((own_p i) < 0 ∨ cl5.slots.size ≤ ((own_p i)).toNatClampNeg) := inb_of Sz5 ⟨own_p0 (own_lt8 hi hn), own_plt hi hn⟩
      have hat6 : cl5.slots[((own_p i)).toNatClampNeg]? = some (.long (own_K arr i)) := Has.at Hh5 hin6 (own_ldK arr (own_lt8 hi hn))
      by_cases hc46 : (own_K arr i) = (-9223372036854775808 : Int64)
      · refine ⟨T4, i, hi, ⟨0, by rw [Nat.add_zero, Nat.mod_eq_of_lt hi], fun e he => absurd he (Nat.not_lt_zero e), Or.inr hc46⟩, X4, e4, fun target kt => ?_⟩
        show Steps p.tables e below (T0.setTop (mkF m 23 #[.val (.ref a1), .val (.long q2), .second, .val (.int ((Int32.ofNat (2 * n)) - (1 : Int32))), .val (.int (own_p i))] [])) _
        refine XS.aloadN X0.here hx rfl (hb hby d9_23) rfl rfl ?_
        refine st1 _ ?_
        refine XS.iload X1.here hx rfl (hb hby d9_27) rfl ?_
        refine X1.laload hx (j := (own_p i)) (v := (.long (own_K arr i))) (by rw [e1]; exact Ar2.1) (State.isArrayOf_alike hZ.alike Ar2.2.1) Ar2.2.2 hin3 hat3 (g := (mkF m 29 #[.val (.ref a1), .val (.long q2), .second, .val (.int ((Int32.ofNat (2 * n)) - (1 : Int32))), .val (.int (own_p i))] [(.int (own_p i)), (.ref a)])) rfl rfl (hb hby d9_29) _ ?_
        refine XS.lloadN X1.here hx rfl (hb hby d9_30) rfl ?_
        refine XS.lcmp X1.here hx rfl (hb hby d9_31) rfl ?_
        refine XS.ifNo X1.here hx rfl (hb hby d9_32) rfl ((if0 _ _).trans (feq (own_lcne hc32)).1) ?_
        refine XS.aloadN X1.here hx rfl (hb hby d9_35) rfl rfl ?_
        refine st4 _ ?_
        refine XS.iload X4.here hx rfl (hb hby d9_39) rfl ?_
        refine X4.laload hx (j := (own_p i)) (v := (.long (own_K arr i))) (by rw [e4]; exact Ar5.1) (State.isArrayOf_alike hZ.alike Ar5.2.1) Ar5.2.2 hin6 hat6 (g := (mkF m 41 #[.val (.ref a1), .val (.long q2), .second, .val (.int ((Int32.ofNat (2 * n)) - (1 : Int32))), .val (.int (own_p i))] [(.int (own_p i)), (.ref a)])) rfl rfl (hb hby d9_41) _ ?_
        refine X4.ldc2Long hx hown (mvT hZ (hw _ (own_w 20 rfl))) (g := (mkF m 42 #[.val (.ref a1), .val (.long q2), .second, .val (.int ((Int32.ofNat (2 * n)) - (1 : Int32))), .val (.int (own_p i))] [(.long (own_K arr i))])) rfl (hb hby d9_42) _ ?_
        refine XS.lcmp X4.here hx rfl (hb hby d9_45) rfl ?_
        refine XS.ifYes X4.here hx rfl (pc0 := 46) (pc' := 60) rfl (hb hby d9_46) rfl ((if0 _ _).trans (teq (own_lceq hc46)).1) (by decide) (by decide) ?_
        exact kt
      · have hnx := own_pnext hi hn
        exact absurd (by rw [Nat.add_zero, Nat.mod_eq_of_lt hi] at hfr; exact hfr) hc46
  | succ f ih =>
    intro T0 i hi hfr X0 e0
    obtain ⟨T1, X1, e1, st1⟩ := getF X0 hx hZ hown (host := "") (Or.inl (hw _ (own_w 18 rfl))) Via.refl e0 FS (g := (mkF m 24 #[.val (.ref a1), .val (.long q2), .second, .val (.int ((Int32.ofNat (2 * n)) - (1 : Int32))), .val (.int (own_p i))] [(.ref a1)])) rfl rfl (hb hby d9_24)
    obtain ⟨cl2, Ar2, qk2, Sz2, Nn2, Hh2, Gg2⟩ := id (AV)
    have hin3 : ¬ ((own_p i) < 0 ∨ cl2.slots.size ≤ ((own_p i)).toNatClampNeg) := inb_of Sz2 ⟨own_p0 (own_lt8 hi hn), own_plt hi hn⟩
    have hat3 : cl2.slots[((own_p i)).toNatClampNeg]? = some (.long (own_K arr i)) := Has.at Hh2 hin3 (own_ldK arr (own_lt8 hi hn))
    by_cases hc32 : (own_K arr i) = q2
    · refine ⟨T1, i, hi, ⟨0, by rw [Nat.add_zero, Nat.mod_eq_of_lt hi], fun e he => absurd he (Nat.not_lt_zero e), Or.inl hc32⟩, X1, e1, fun target kt => ?_⟩
      show Steps p.tables e below (T0.setTop (mkF m 23 #[.val (.ref a1), .val (.long q2), .second, .val (.int ((Int32.ofNat (2 * n)) - (1 : Int32))), .val (.int (own_p i))] [])) _
      refine XS.aloadN X0.here hx rfl (hb hby d9_23) rfl rfl ?_
      refine st1 _ ?_
      refine XS.iload X1.here hx rfl (hb hby d9_27) rfl ?_
      refine X1.laload hx (j := (own_p i)) (v := (.long (own_K arr i))) (by rw [e1]; exact Ar2.1) (State.isArrayOf_alike hZ.alike Ar2.2.1) Ar2.2.2 hin3 hat3 (g := (mkF m 29 #[.val (.ref a1), .val (.long q2), .second, .val (.int ((Int32.ofNat (2 * n)) - (1 : Int32))), .val (.int (own_p i))] [(.int (own_p i)), (.ref a)])) rfl rfl (hb hby d9_29) _ ?_
      refine XS.lloadN X1.here hx rfl (hb hby d9_30) rfl ?_
      refine XS.lcmp X1.here hx rfl (hb hby d9_31) rfl ?_
      refine XS.ifYes X1.here hx rfl (pc0 := 32) (pc' := 60) rfl (hb hby d9_32) rfl ((if0 _ _).trans (teq (own_lceq hc32)).1) (by decide) (by decide) ?_
      exact kt
    · obtain ⟨T4, X4, e4, st4⟩ := getF X1 hx hZ hown (host := "") (Or.inl (hw _ (own_w 18 rfl))) Via.refl e1 FS (g := (mkF m 36 #[.val (.ref a1), .val (.long q2), .second, .val (.int ((Int32.ofNat (2 * n)) - (1 : Int32))), .val (.int (own_p i))] [(.ref a1)])) rfl rfl (hb hby d9_36)
      obtain ⟨cl5, Ar5, qk5, Sz5, Nn5, Hh5, Gg5⟩ := id (AV)
      have hin6 : ¬ ((own_p i) < 0 ∨ cl5.slots.size ≤ ((own_p i)).toNatClampNeg) := inb_of Sz5 ⟨own_p0 (own_lt8 hi hn), own_plt hi hn⟩
      have hat6 : cl5.slots[((own_p i)).toNatClampNeg]? = some (.long (own_K arr i)) := Has.at Hh5 hin6 (own_ldK arr (own_lt8 hi hn))
      by_cases hc46 : (own_K arr i) = (-9223372036854775808 : Int64)
      · refine ⟨T4, i, hi, ⟨0, by rw [Nat.add_zero, Nat.mod_eq_of_lt hi], fun e he => absurd he (Nat.not_lt_zero e), Or.inr hc46⟩, X4, e4, fun target kt => ?_⟩
        show Steps p.tables e below (T0.setTop (mkF m 23 #[.val (.ref a1), .val (.long q2), .second, .val (.int ((Int32.ofNat (2 * n)) - (1 : Int32))), .val (.int (own_p i))] [])) _
        refine XS.aloadN X0.here hx rfl (hb hby d9_23) rfl rfl ?_
        refine st1 _ ?_
        refine XS.iload X1.here hx rfl (hb hby d9_27) rfl ?_
        refine X1.laload hx (j := (own_p i)) (v := (.long (own_K arr i))) (by rw [e1]; exact Ar2.1) (State.isArrayOf_alike hZ.alike Ar2.2.1) Ar2.2.2 hin3 hat3 (g := (mkF m 29 #[.val (.ref a1), .val (.long q2), .second, .val (.int ((Int32.ofNat (2 * n)) - (1 : Int32))), .val (.int (own_p i))] [(.int (own_p i)), (.ref a)])) rfl rfl (hb hby d9_29) _ ?_
        refine XS.lloadN X1.here hx rfl (hb hby d9_30) rfl ?_
        refine XS.lcmp X1.here hx rfl (hb hby d9_31) rfl ?_
        refine XS.ifNo X1.here hx rfl (hb hby d9_32) rfl ((if0 _ _).trans (feq (own_lcne hc32)).1) ?_
        refine XS.aloadN X1.here hx rfl (hb hby d9_35) rfl rfl ?_
        refine st4 _ ?_
        refine XS.iload X4.here hx rfl (hb hby d9_39) rfl ?_
        refine X4.laload hx (j := (own_p i)) (v := (.long (own_K arr i))) (by rw [e4]; exact Ar5.1) (State.isArrayOf_alike hZ.alike Ar5.2.1) Ar5.2.2 hin6 hat6 (g := (mkF m 41 #[.val (.ref a1), .val (.long q2), .second, .val (.int ((Int32.ofNat (2 * n)) - (1 : Int32))), .val (.int (own_p i))] [(.int (own_p i)), (.ref a)])) rfl rfl (hb hby d9_41) _ ?_
        refine X4.ldc2Long hx hown (mvT hZ (hw _ (own_w 20 rfl))) (g := (mkF m 42 #[.val (.ref a1), .val (.long q2), .second, .val (.int ((Int32.ofNat (2 * n)) - (1 : Int32))), .val (.int (own_p i))] [(.long (own_K arr i))])) rfl (hb hby d9_42) _ ?_
        refine XS.lcmp X4.here hx rfl (hb hby d9_45) rfl ?_
        refine XS.ifYes X4.here hx rfl (pc0 := 46) (pc' := 60) rfl (hb hby d9_46) rfl ((if0 _ _).trans (teq (own_lceq hc46)).1) (by decide) (by decide) ?_
        exact kt
      · have hnx := own_pnext hi hn
        obtain ⟨T', i', hi', P', X', e', st'⟩ := ih T4 ((i + 1) % n) (Nat.mod_lt _ (own_n0 hn)) (by rw [← own_mod1]; exact hfr) X4 e4
        refine ⟨T', i', hi', own_idx_step hi hc32 hc46 P', X', e', fun target kt => ?_⟩
        refine XS.aloadN X0.here hx rfl (hb hby d9_23) rfl rfl ?_
        refine st1 _ ?_
        refine XS.iload X1.here hx rfl (hb hby d9_27) rfl ?_
        refine X1.laload hx (j := (own_p i)) (v := (.long (own_K arr i))) (by rw [e1]; exact Ar2.1) (State.isArrayOf_alike hZ.alike Ar2.2.1) Ar2.2.2 hin3 hat3 (g := (mkF m 29 #[.val (.ref a1), .val (.long q2), .second, .val (.int ((Int32.ofNat (2 * n)) - (1 : Int32))), .val (.int (own_p i))] [(.int (own_p i)), (.ref a)])) rfl rfl (hb hby d9_29) _ ?_
        refine XS.lloadN X1.here hx rfl (hb hby d9_30) rfl ?_
        refine XS.lcmp X1.here hx rfl (hb hby d9_31) rfl ?_
        refine XS.ifNo X1.here hx rfl (hb hby d9_32) rfl ((if0 _ _).trans (feq (own_lcne hc32)).1) ?_
        refine XS.aloadN X1.here hx rfl (hb hby d9_35) rfl rfl ?_
        refine st4 _ ?_
        refine XS.iload X4.here hx rfl (hb hby d9_39) rfl ?_
        refine X4.laload hx (j := (own_p i)) (v := (.long (own_K arr i))) (by rw [e4]; exact Ar5.1) (State.isArrayOf_alike hZ.alike Ar5.2.1) Ar5.2.2 hin6 hat6 (g := (mkF m 41 #[.val (.ref a1), .val (.long q2), .second, .val (.int ((Int32.ofNat (2 * n)) - (1 : Int32))), .val (.int (own_p i))] [(.int (own_p i)), (.ref a)])) rfl rfl (hb hby d9_41) _ ?_
        refine X4.ldc2Long hx hown (mvT hZ (hw _ (own_w 20 rfl))) (g := (mkF m 42 #[.val (.ref a1), .val (.long q2), .second, .val (.int ((Int32.ofNat (2 * n)) - (1 : Int32))), .val (.int (own_p i))] [(.long (own_K arr i))])) rfl (hb hby d9_42) _ ?_
        refine XS.lcmp X4.here hx rfl (hb hby d9_45) rfl ?_
        refine XS.ifNo X4.here hx rfl (hb hby d9_46) rfl ((if0 _ _).trans (feq (own_lcne hc46)).1) ?_
        refine XS.iload X4.here hx rfl (hb hby d9_49) rfl ?_
        refine XS.iconst X4.here hx rfl (hb hby d9_51) ?_
        refine XS.iadd X4.here hx rfl (hb hby d9_52) rfl ?_
        refine XS.iloadN X4.here hx rfl (hb hby d9_53) rfl ?_
        refine XS.iand X4.here hx rfl (hb hby d9_54) rfl ?_
        show Steps p.tables e below (T4.setTop (mkF m 55 #[.val (.ref a1), .val (.long q2), .second, .val (.int ((Int32.ofNat (2 * n)) - (1 : Int32))), .val (.int (own_p i))] [(.int (((own_p i) + (2 : Int32)) &&& ((Int32.ofNat (2 * n)) - (1 : Int32))))])) _
        rw [hnx]
        show Steps p.tables e below (T4.setTop (mkF m 55 #[.val (.ref a1), .val (.long q2), .second, .val (.int ((Int32.ofNat (2 * n)) - (1 : Int32))), .val (.int (own_p i))] [(.int (own_p ((i + 1) % n)))])) _
        refine XS.istore X4.here hx rfl (hb hby d9_55) rfl (l' := #[.val (.ref a1), .val (.long q2), .second, .val (.int ((Int32.ofNat (2 * n)) - (1 : Int32))), .val (.int (own_p ((i + 1) % n)))]) rfl ?_
        refine XS.goto X4.here hx rfl (pc0 := 57) (pc' := 23) rfl (hb hby d9_57) (by decide) (by decide) ?_
        exact st' target kt
theorem d9_0 : decode prog_19_method_8_code 0 = .ok (.aload_n 0, 1) := by decide +kernel
theorem d9_1 : decode prog_19_method_8_code 1 = .ok (.getfield 14, 3) := by decide +kernel
theorem d9_4 : decode prog_19_method_8_code 4 = .ok (.arraylength, 1) := by decide +kernel
theorem d9_5 : decode prog_19_method_8_code 5 = .ok (.iconst 1, 1) := by decide +kernel
theorem d9_6 : decode prog_19_method_8_code 6 = .ok (.isub, 1) := by decide +kernel
theorem d9_7 : decode prog_19_method_8_code 7 = .ok (.istore_n 3, 1) := by decide +kernel
theorem d9_8 : decode prog_19_method_8_code 8 = .ok (.lload_n 1, 1) := by decide +kernel
theorem d9_9 : decode prog_19_method_8_code 9 = .ok (.ldc2_w 70, 3) := by decide +kernel
theorem d9_12 : decode prog_19_method_8_code 12 = .ok (.lmul, 1) := by decide +kernel
theorem d9_13 : decode prog_19_method_8_code 13 = .ok (.aload_n 0, 1) := by decide +kernel
theorem d9_14 : decode prog_19_method_8_code 14 = .ok (.getfield 24, 3) := by decide +kernel
theorem d9_17 : decode prog_19_method_8_code 17 = .ok (.lushr, 1) := by decide +kernel
theorem d9_18 : decode prog_19_method_8_code 18 = .ok (.l2i, 1) := by decide +kernel
theorem d9_19 : decode prog_19_method_8_code 19 = .ok (.iconst 1, 1) := by decide +kernel
theorem d9_20 : decode prog_19_method_8_code 20 = .ok (.ishl, 1) := by decide +kernel
theorem d9_21 : decode prog_19_method_8_code 21 = .ok (.istore 4, 2) := by decide +kernel
theorem d9_60 : decode prog_19_method_8_code 60 = .ok (.iload 4, 2) := by decide +kernel
theorem d9_62 : decode prog_19_method_8_code 62 = .ok (.ireturn, 1) := by decide +kernel
theorem pn_9 : plainName "com/example/pricewright/pricewright/core/LongSumTable" = true := by first | (simp [plainName, overriddenIn]; done) | decide +kernel
theorem ef_rmX (m : MethodId) (a1 : Addr) (q2 : Int64) : entryFrame m #[(.ref a1), (.long q2)] 5 = mkF m 0 #[.val (.ref a1), .val (.long q2), .second, .unset, .unset] [] := by first | (simp [entryFrame, mkF, argsToLocals, Value.category]; done) | rfl
def QrmX (Z : State) (a1 : Addr) (q2 : Int64) (a : Addr) (k : ClassId) (arr : List Int64) (n : Nat) (sh : Int32) (h0 : Heap) (n0 : Nat) (v : Option Value) (h : Heap) (L : List Loc) : Prop := ∃ z : Int32, (∃ i, i < n ∧ z = own_p i ∧ own_Idx (own_K arr) n (own_hs n q2) q2 i) ∧ v = some (.int z) ∧ Fr n0 L ∧ h = h0
set_option maxRecDepth 65536 in
set_option maxHeartbeats 40000000 in
theorem rmX (l : Launch) (Z : State) (a0 : Array Value) (hw : ∀ d ∈ tables_1, d.before a0 Z = true) (ws : List Jvm.Cond) (a1 : Addr) (q2 : Int64) (a : Addr) (k : ClassId) (arr : List Int64) (n : Nat) (sh : Int32) (h0 : Heap) (n0 : Nat) (Z0 : n0 ≤ h0.size) (hns : (n = 4 ∧ sh = 62) ∨ (n = 8 ∧ sh = 61)) (FS : Fld Z h0 a1 "com/example/pricewright/pricewright/core/LongSumTable" "slots" "[J" (.ref a)) (FH : Fld Z h0 a1 "com/example/pricewright/pricewright/core/LongSumTable" "shift" "I" (.int sh)) (AV : Arv Z h0 a k .long (Int32.ofNat (2 * n)) (arr.map Value.long) (.long (0 : Int64))) (hfr : ∃ j, j < n ∧ own_K arr j = own_FREE) :
    MetFree l (⟨"com/example/pricewright/pricewright/core/LongSumTable", "index", "(J)I"⟩ : MethodName) (head1 (Jvm.Cond.code (⟨"com/example/pricewright/pricewright/core/LongSumTable", "index", "(J)I"⟩ : MethodName) prog_19_method_8_code 5 (some .int) :: ws) ({ frames := 0, cells := 0, slots := 0, locals := 0 } : Room)) (fun a U => a = #[(.ref a1), (.long q2)] ∧ Z.Warmed39 U.vm ∧ U.heap = h0) (fun _ _ _ _ _ => True) (fun _ U o U' => ∃ v L, o = .returned v ∧ QrmX Z a1 q2 a k arr n sh h0 n0 v U'.heap L ∧ FrameEnd U o U' L ({ frames := 0, cells := 0, slots := 0, locals := 0 } : Room).cells ({ frames := 0, cells := 0, slots := 0, locals := 0 } : Room).slots) := by
  refine MetFree.of_bodySF (plainFor_of_name pn_9) hisR ?_
  intro p e s m args below meth c s₁ Bd hml0 hP hK
  obtain ⟨rfl, hZ, hh⟩ := hP
  have hx := Bd.exec
  have hby := Bd.bytes
  have hml : c.maxLocals = 5 := hml0
  have hown : s.vm.findClass "com/example/pricewright/pricewright/core/LongSumTable" = some m.cls := findClass_of_methodNamed Bd.named
  have hnm := (name_of_methodNamed Bd.named Bd.method).1
  have X0 : Stand p l e ({ frames := 0, cells := 0, slots := 0, locals := 0 } : Room) s m #[(.ref a1), (.long q2)] below meth c s₁ [] 0 0 := Stand.of_body Bd
  have e0 : s₁.heap = h0 := by rw [← hh, Bd.state]; rfl
  have N0 := Fr.nil n0
  have pre0 : ∀ t, Steps p.tables e below (s₁.setTop (mkF m 0 #[.val (.ref a1), .val (.long q2), .second, .unset, .unset] [])) t → Steps p.tables e below (s₁.setTop (entryFrame m #[(.ref a1), (.long q2)] 5)) t := fun t k => castTop (ef_rmX m a1 q2) k
  have hn := own_hn hns
  obtain ⟨T1, X1, e1, st1⟩ := getF X0 hx hZ hown (host := "") (Or.inl (hw _ (own_w 18 rfl))) Via.refl e0 FS (g := (mkF m 1 #[.val (.ref a1), .val (.long q2), .second, .unset, .unset] [(.ref a1)])) rfl rfl (hb hby d9_1)
  obtain ⟨cl2, Ar2, qk2, Sz2, Nn2, Hh2, Gg2⟩ := id (AV)
  obtain ⟨T3, X3, e3, st3⟩ := getF X1 hx hZ hown (host := "") (Or.inl (hw _ (own_w 30 rfl))) Via.refl e1 FH (g := (mkF m 14 #[.val (.ref a1), .val (.long q2), .second, .val (.int ((Int32.ofNat (2 * n)) - (1 : Int32))), .unset] [(.ref a1), (.long (q2 * (-7046029254386353131 : Int64)))])) rfl rfl (hb hby d9_14)
  have hh := own_hash q2 hns
  obtain ⟨f, hf⟩ := own_far hfr (own_hslt q2 hn)
  obtain ⟨T4, i, hi, P, X4, e4, st4⟩ := own_lp hx hZ hw hby hml hown hn FS AV f T3 _ (own_hslt q2 hn) hf X3 e3
  obtain ⟨fs, hr, hrun, hended, hW, hsame⟩ := X4.leave (v := some (.int (own_p i))) (fun h => by rw [Bd.returns] at h; cases h) (BodyLoose.notSynchronized Bd)
  refine ⟨_, _, pre0 _ ?_, hrun, hended, _, _, rfl, ?_, ⟨_, rfl⟩, hW, hsame.mono (by decide) (by decide)⟩
  · show Steps p.tables e below (s₁.setTop (mkF m 0 #[.val (.ref a1), .val (.long q2), .second, .unset, .unset] [])) _
    refine XS.aloadN X0.here hx rfl (hb hby d9_0) rfl rfl ?_
    refine st1 _ ?_
    refine X1.arraylength hx (by rw [e1]; exact Ar2.1) (State.isArrayOf_alike hZ.alike Ar2.2.1) (g := (mkF m 4 #[.val (.ref a1), .val (.long q2), .second, .unset, .unset] [(.ref a)])) rfl rfl (hb hby d9_4) _ ?_
    rw [len_of Sz2 Nn2]
    show Steps p.tables e below (T1.setTop (mkF m 5 #[.val (.ref a1), .val (.long q2), .second, .unset, .unset] [(.int (Int32.ofNat (2 * n)))])) _
    refine XS.iconst X1.here hx rfl (hb hby d9_5) ?_
    refine XS.isub X1.here hx rfl (hb hby d9_6) rfl ?_
    refine XS.istoreN X1.here hx rfl (hb hby d9_7) rfl (l' := #[.val (.ref a1), .val (.long q2), .second, .val (.int ((Int32.ofNat (2 * n)) - (1 : Int32))), .unset]) rfl ?_
    refine XS.lloadN X1.here hx rfl (hb hby d9_8) rfl ?_
    refine X1.ldc2Long hx hown (mvT hZ (hw _ (own_w 44 rfl))) (g := (mkF m 9 #[.val (.ref a1), .val (.long q2), .second, .val (.int ((Int32.ofNat (2 * n)) - (1 : Int32))), .unset] [(.long q2)])) rfl (hb hby d9_9) _ ?_
    refine XS.lmul X1.here hx rfl (hb hby d9_12) rfl ?_
    refine XS.aloadN X1.here hx rfl (hb hby d9_13) rfl rfl ?_
    refine st3 _ ?_
    refine XS.lushr X3.here hx rfl (hb hby d9_17) rfl ?_
    refine XS.l2i X3.here hx rfl (hb hby d9_18) rfl ?_
    refine XS.iconst X3.here hx rfl (hb hby d9_19) ?_
    refine XS.ishl X3.here hx rfl (hb hby d9_20) rfl ?_
    show Steps p.tables e below (T3.setTop (mkF m 21 #[.val (.ref a1), .val (.long q2), .second, .val (.int ((Int32.ofNat (2 * n)) - (1 : Int32))), .unset] [(.int (((((q2 * (-7046029254386353131 : Int64)).toUInt64 >>> (sh &&& 0x3f).toInt64.toUInt64).toInt64).toInt32) <<< ((1 : Int32) &&& 31)))])) _
    rw [hh]
    show Steps p.tables e below (T3.setTop (mkF m 21 #[.val (.ref a1), .val (.long q2), .second, .val (.int ((Int32.ofNat (2 * n)) - (1 : Int32))), .unset] [(.int (own_p (own_hs n q2)))])) _
    refine XS.istore X3.here hx rfl (hb hby d9_21) rfl (l' := #[.val (.ref a1), .val (.long q2), .second, .val (.int ((Int32.ofNat (2 * n)) - (1 : Int32))), .val (.int (own_p (own_hs n q2)))]) rfl ?_
    refine st4 _ ?_
    refine XS.iload X4.here hx rfl (hb hby d9_60) rfl ?_
    show Steps p.tables e below (T4.setTop (mkF m 62 #[.val (.ref a1), .val (.long q2), .second, .val (.int ((Int32.ofNat (2 * n)) - (1 : Int32))), .val (.int (own_p i))] [(.int (own_p i))])) _
    exact retI X4 hx Bd.returns (hb hby d9_62) hr
  · show QrmX Z a1 q2 a k arr n sh h0 n0 _ T4.heap _
    exact ⟨_, ⟨i, hi, rfl, P⟩, rfl, N0, e4⟩
theorem d18_0 : decode prog_19_method_4_code 0 = .ok (.aload_n 0, 1) := by decide +kernel
theorem d18_1 : decode prog_19_method_4_code 1 = .ok (.lload_n 1, 1) := by decide +kernel
theorem d18_2 : decode prog_19_method_4_code 2 = .ok (.invokevirtual 32, 3) := by decide +kernel
theorem d18_5 : decode prog_19_method_4_code 5 = .ok (.istore_n 3, 1) := by decide +kernel
theorem d18_6 : decode prog_19_method_4_code 6 = .ok (.aload_n 0, 1) := by decide +kernel
theorem d18_7 : decode prog_19_method_4_code 7 = .ok (.getfield 14, 3) := by decide +kernel
theorem d18_10 : decode prog_19_method_4_code 10 = .ok (.iload_n 3, 1) := by decide +kernel
theorem d18_11 : decode prog_19_method_4_code 11 = .ok (.laload, 1) := by decide +kernel
theorem d18_12 : decode prog_19_method_4_code 12 = .ok (.lload_n 1, 1) := by decide +kernel
theorem d18_13 : decode prog_19_method_4_code 13 = .ok (.lcmp, 1) := by decide +kernel
theorem d18_14 : decode prog_19_method_4_code 14 = .ok (.ifCond .ne 14, 3) := by decide +kernel
theorem d18_17 : decode prog_19_method_4_code 17 = .ok (.aload_n 0, 1) := by decide +kernel
theorem d18_18 : decode prog_19_method_4_code 18 = .ok (.getfield 14, 3) := by decide +kernel
theorem d18_21 : decode prog_19_method_4_code 21 = .ok (.iload_n 3, 1) := by decide +kernel
theorem d18_22 : decode prog_19_method_4_code 22 = .ok (.iconst 1, 1) := by decide +kernel
theorem d18_23 : decode prog_19_method_4_code 23 = .ok (.iadd, 1) := by decide +kernel
theorem d18_24 : decode prog_19_method_4_code 24 = .ok (.laload, 1) := by decide +kernel
theorem d18_25 : decode prog_19_method_4_code 25 = .ok (.goto 4, 3) := by decide +kernel
theorem d18_28 : decode prog_19_method_4_code 28 = .ok (.lconst 0, 1) := by decide +kernel
theorem d18_29 : decode prog_19_method_4_code 29 = .ok (.lreturn, 1) := by decide +kernel
theorem pn_18 : plainName "com/example/pricewright/pricewright/core/LongSumTable" = true := by first | (simp [plainName, overriddenIn]; done) | decide +kernel
theorem ef_rmG (m : MethodId) (a1 : Addr) (q2 : Int64) : entryFrame m #[(.ref a1), (.long q2)] 4 = mkF m 0 #[.val (.ref a1), .val (.long q2), .second, .unset] [] := by first | (simp [entryFrame, mkF, argsToLocals, Value.category]; done) | rfl
def QrmG (Z : State) (a1 : Addr) (q2 : Int64) (a : Addr) (k : ClassId) (arr : List Int64) (n : Nat) (sh : Int32) (h0 : Heap) (n0 : Nat) (v : Option Value) (h : Heap) (L : List Loc) : Prop := ∃ z : Int64, (∃ i, i < n ∧ own_Idx (own_K arr) n (own_hs n q2) q2 i ∧ z = if own_K arr i = q2 then own_W arr i else 0) ∧ v = some (.long z) ∧ Fr n0 L ∧ h = h0
set_option maxRecDepth 65536 in
set_option maxHeartbeats 40000000 in
theorem rmG (l : Launch) (Z : State) (a0 : Array Value) (hw : ∀ d ∈ tables_1, d.before a0 Z = true) (ws : List Jvm.Cond) (a1 : Addr) (q2 : Int64) (a : Addr) (k : ClassId) (arr : List Int64) (n : Nat) (sh : Int32) (h0 : Heap) (n0 : Nat) (Z0 : n0 ≤ h0.size) (hns : (n = 4 ∧ sh = 62) ∨ (n = 8 ∧ sh = 61)) (E : Exa Z h0 a1 "com/example/pricewright/pricewright/core/LongSumTable") (FS : Fld Z h0 a1 "com/example/pricewright/pricewright/core/LongSumTable" "slots" "[J" (.ref a)) (FH : Fld Z h0 a1 "com/example/pricewright/pricewright/core/LongSumTable" "shift" "I" (.int sh)) (AV : Arv Z h0 a k .long (Int32.ofNat (2 * n)) (arr.map Value.long) (.long (0 : Int64))) (hfr : ∃ j, j < n ∧ own_K arr j = own_FREE) :
    MetFree l (⟨"com/example/pricewright/pricewright/core/LongSumTable", "get", "(J)J"⟩ : MethodName) (head1 (Jvm.Cond.code (⟨"com/example/pricewright/pricewright/core/LongSumTable", "get", "(J)J"⟩ : MethodName) prog_19_method_4_code 4 (some .long) :: ws) ({ frames := 1, cells := 0, slots := 0, locals := 16 } : Room)) (fun a U => a = #[(.ref a1), (.long q2)] ∧ Z.Warmed39 U.vm ∧ U.heap = h0) (fun _ _ _ _ _ => True) (fun _ U o U' => ∃ v L, o = .returned v ∧ QrmG Z a1 q2 a k arr n sh h0 n0 v U'.heap L ∧ FrameEnd U o U' L ({ frames := 1, cells := 0, slots := 0, locals := 16 } : Room).cells ({ frames := 1, cells := 0, slots := 0, locals := 16 } : Room).slots) := by
  refine MetFree.of_bodySF (plainFor_of_name pn_18) hisR ?_
  intro p e s m args below meth c s₁ Bd hml0 hP hK
  obtain ⟨rfl, hZ, hh⟩ := hP
  have hx := Bd.exec
  have hby := Bd.bytes
  have hml : c.maxLocals = 4 := hml0
  have hown : s.vm.findClass "com/example/pricewright/pricewright/core/LongSumTable" = some m.cls := findClass_of_methodNamed Bd.named
  have hnm := (name_of_methodNamed Bd.named Bd.method).1
  have X0 : Stand p l e ({ frames := 1, cells := 0, slots := 0, locals := 16 } : Room) s m #[(.ref a1), (.long q2)] below meth c s₁ [] 0 0 := Stand.of_body Bd
  have e0 : s₁.heap = h0 := by rw [← hh, Bd.state]; rfl
  have N0 := Fr.nil n0
  have pre0 : ∀ t, Steps p.tables e below (s₁.setTop (mkF m 0 #[.val (.ref a1), .val (.long q2), .second, .unset] [])) t → Steps p.tables e below (s₁.setTop (entryFrame m #[(.ref a1), (.long q2)] 4)) t := fun t k => castTop (ef_rmG m a1 q2) k
  have hn := own_hn hns
  obtain ⟨cq1, qq1, qq1'⟩ := E.cell
  obtain ⟨_, _, ⟨T1, Lq1, kq1, nq1⟩, -, X1, ⟨Lc1, hQ1, lq1, yq1, zq1⟩, st1⟩ := X0.privateBack hx (y := (⟨"com/example/pricewright/pricewright/core/LongSumTable", "index", "(J)I"⟩ : MethodName)) hown (mvT hZ (hw _ (own_w 40 rfl))) (mvT hZ (hw _ (own_w 41 rfl))) (own_selpriv (mvT hZ (hw _ (own_w 6 rfl))) (Cond.privateMethod_at (mvP hZ (hw _ (own_w 42 rfl)) (args := #[]))) (mvT hZ (hw _ (own_w 41 rfl))) (by decide)) (Cond.privateMethod_at (mvP hZ (hw _ (own_w 42 rfl)) (args := #[]))) (mvT hZ (hw _ (own_w 43 rfl))) (by decide) (backOf (W := 0) (rmX l Z a0 hw [] a1 q2 a k (arr) n sh h0 n0 Z0 hns FS FH AV hfr) hZ (hw _ (own_w 43 rfl)) (hw _ (own_w 7 rfl)) (by decide) (by decide)) (g := (mkF m 2 #[.val (.ref a1), .val (.long q2), .second, .unset] [(.long q2), (.ref a1)])) rfl (by rw [hml]; rfl) (Steps.refl _) (a := a1) (by rw [e0]; exact qq1) qq1' (argsL := [(.long q2)]) (rest := []) (lenOf pd_1 rfl) rfl (by show 2 * 0 + _ ≤ _; exact Nat.le_of_eq rfl) (hb hby d18_2) (fun _ _ => ⟨rfl, e0, (by decide : 0 + 0 ≤ _), (by decide : 0 + 0 ≤ _)⟩)
  dsimp only [Pt.U, Pt.locs, Pt.cells, Pt.slots] at X1 lq1 yq1 zq1 st1 hQ1
  subst lq1 yq1 zq1
  obtain ⟨r1, hr1, rfl, N1q, e1⟩ := hQ1
  have N1 := Fr.app N0 N1q
  obtain ⟨i1, hi1, rfl, P1⟩ := hr1
  obtain ⟨T2, X2, e2, st2⟩ := getF X1 hx hZ hown (host := "") (Or.inl (hw _ (own_w 18 rfl))) Via.refl e1 FS (g := (mkF m 7 #[.val (.ref a1), .val (.long q2), .second, .val (.int (own_p i1))] [(.ref a1)])) rfl rfl (hb hby d18_7)
  obtain ⟨cl3, Ar3, qk3, Sz3, Nn3, Hh3, Gg3⟩ := id (AV)
  have hin4 : ¬ ((own_p i1) < 0 ∨ cl3.slots.size ≤ ((own_p i1)).toNatClampNeg) := inb_of Sz3 ⟨own_p0 (own_lt8 hi1 hn), own_plt hi1 hn⟩
  have hat4 : cl3.slots[((own_p i1)).toNatClampNeg]? = some (.long (own_K arr i1)) := Has.at Hh3 hin4 (own_ldK arr (own_lt8 hi1 hn))
  by_cases hc14 : (own_K arr i1) = q2
  · obtain ⟨T5, X5, e5, st5⟩ := getF X2 hx hZ hown (host := "") (Or.inl (hw _ (own_w 18 rfl))) Via.refl e2 FS (g := (mkF m 18 #[.val (.ref a1), .val (.long q2), .second, .val (.int (own_p i1))] [(.ref a1)])) rfl rfl (hb hby d18_18)
    obtain ⟨cl6, Ar6, qk6, Sz6, Nn6, Hh6, Gg6⟩ := id (AV)
    have hin7 : ¬ (((own_p i1) + (1 : Int32)) < 0 ∨ cl6.slots.size ≤ (((own_p i1) + (1 : Int32))).toNatClampNeg) := inb_of Sz6 ⟨own_q0 (own_lt8 hi1 hn), own_qlt hi1 hn⟩
    have hat7 : cl6.slots[(((own_p i1) + (1 : Int32))).toNatClampNeg]? = some (.long (own_W arr i1)) := Has.at Hh6 hin7 (own_ldW arr (own_lt8 hi1 hn))
    obtain ⟨fs, hr, hrun, hended, hW, hsame⟩ := X5.leave (v := some (.long (own_W arr i1))) (fun h => by rw [Bd.returns] at h; cases h) (BodyLoose.notSynchronized Bd)
    refine ⟨_, _, pre0 _ ?_, hrun, hended, _, _, rfl, ?_, ⟨_, rfl⟩, hW, hsame.mono (by decide) (by decide)⟩
    · show Steps p.tables e below (s₁.setTop (mkF m 0 #[.val (.ref a1), .val (.long q2), .second, .unset] [])) _
      refine XS.aloadN X0.here hx rfl (hb hby d18_0) rfl rfl ?_
      refine XS.lloadN X0.here hx rfl (hb hby d18_1) rfl ?_
      refine st1.trans ?_
      refine XS.istoreN X1.here hx rfl (hb hby d18_5) rfl (l' := #[.val (.ref a1), .val (.long q2), .second, .val (.int (own_p i1))]) rfl ?_
      refine XS.aloadN X1.here hx rfl (hb hby d18_6) rfl rfl ?_
      refine st2 _ ?_
      refine XS.iloadN X2.here hx rfl (hb hby d18_10) rfl ?_
      refine X2.laload hx (j := (own_p i1)) (v := (.long (own_K arr i1))) (by rw [e2]; exact Ar3.1) (State.isArrayOf_alike hZ.alike Ar3.2.1) Ar3.2.2 hin4 hat4 (g := (mkF m 11 #[.val (.ref a1), .val (.long q2), .second, .val (.int (own_p i1))] [(.int (own_p i1)), (.ref a)])) rfl rfl (hb hby d18_11) _ ?_
      refine XS.lloadN X2.here hx rfl (hb hby d18_12) rfl ?_
      refine XS.lcmp X2.here hx rfl (hb hby d18_13) rfl ?_
      refine XS.ifNo X2.here hx rfl (hb hby d18_14) rfl ((if0 _ _).trans (teq (own_lceq hc14)).2) ?_
      refine XS.aloadN X2.here hx rfl (hb hby d18_17) rfl rfl ?_
      refine st5 _ ?_
      refine XS.iloadN X5.here hx rfl (hb hby d18_21) rfl ?_
      refine XS.iconst X5.here hx rfl (hb hby d18_22) ?_
      refine XS.iadd X5.here hx rfl (hb hby d18_23) rfl ?_
      refine X5.laload hx (j := ((own_p i1) + (1 : Int32))) (v := (.long (own_W arr i1))) (by rw [e5]; exact Ar6.1) (State.isArrayOf_alike hZ.alike Ar6.2.1) Ar6.2.2 hin7 hat7 (g := (mkF m 24 #[.val (.ref a1), .val (.long q2), .second, .val (.int (own_p i1))] [(.int ((own_p i1) + (1 : Int32))), (.ref a)])) rfl rfl (hb hby d18_24) _ ?_
      refine XS.goto X5.here hx rfl (pc0 := 25) (pc' := 29) rfl (hb hby d18_25) (by decide) (by decide) ?_
      show Steps p.tables e below (T5.setTop (mkF m 29 #[.val (.ref a1), .val (.long q2), .second, .val (.int (own_p i1))] [(.long (own_W arr i1))])) _
      exact X5.lreturnOut hx Bd.returns (hb hby d18_29) hr
    · show QrmG Z a1 q2 a k arr n sh h0 n0 _ T5.heap _
      exact ⟨_, ⟨i1, hi1, P1, by simp [hc14]⟩, rfl, N1, e5⟩
  · obtain ⟨fs, hr, hrun, hended, hW, hsame⟩ := X2.leave (v := some (.long (0 : Int64))) (fun h => by rw [Bd.returns] at h; cases h) (BodyLoose.notSynchronized Bd)
    refine ⟨_, _, pre0 _ ?_, hrun, hended, _, _, rfl, ?_, ⟨_, rfl⟩, hW, hsame.mono (by decide) (by decide)⟩
    · show Steps p.tables e below (s₁.setTop (mkF m 0 #[.val (.ref a1), .val (.long q2), .second, .unset] [])) _
      refine XS.aloadN X0.here hx rfl (hb hby d18_0) rfl rfl ?_
      refine XS.lloadN X0.here hx rfl (hb hby d18_1) rfl ?_
      refine st1.trans ?_
      refine XS.istoreN X1.here hx rfl (hb hby d18_5) rfl (l' := #[.val (.ref a1), .val (.long q2), .second, .val (.int (own_p i1))]) rfl ?_
      refine XS.aloadN X1.here hx rfl (hb hby d18_6) rfl rfl ?_
      refine st2 _ ?_
      refine XS.iloadN X2.here hx rfl (hb hby d18_10) rfl ?_
      refine X2.laload hx (j := (own_p i1)) (v := (.long (own_K arr i1))) (by rw [e2]; exact Ar3.1) (State.isArrayOf_alike hZ.alike Ar3.2.1) Ar3.2.2 hin4 hat4 (g := (mkF m 11 #[.val (.ref a1), .val (.long q2), .second, .val (.int (own_p i1))] [(.int (own_p i1)), (.ref a)])) rfl rfl (hb hby d18_11) _ ?_
      refine XS.lloadN X2.here hx rfl (hb hby d18_12) rfl ?_
      refine XS.lcmp X2.here hx rfl (hb hby d18_13) rfl ?_
      refine XS.ifYes X2.here hx rfl (pc0 := 14) (pc' := 28) rfl (hb hby d18_14) rfl ((if0 _ _).trans (feq (own_lcne hc14)).2) (by decide) (by decide) ?_
      refine XS.lconst X2.here hx rfl (hb hby d18_28) ?_
      show Steps p.tables e below (T2.setTop (mkF m 29 #[.val (.ref a1), .val (.long q2), .second, .val (.int (own_p i1))] [(.long (0 : Int64))])) _
      exact X2.lreturnOut hx Bd.returns (hb hby d18_29) hr
    · show QrmG Z a1 q2 a k arr n sh h0 n0 _ T2.heap _
      exact ⟨_, ⟨i1, hi1, P1, by simp [hc14]⟩, rfl, N1, e2⟩
theorem d17_0 : decode prog_19_method_10_code 0 = .ok (.aload_n 0, 1) := by decide +kernel
theorem d17_1 : decode prog_19_method_10_code 1 = .ok (.lload_n 1, 1) := by decide +kernel
theorem d17_2 : decode prog_19_method_10_code 2 = .ok (.invokevirtual 32, 3) := by decide +kernel
theorem d17_5 : decode prog_19_method_10_code 5 = .ok (.istore 5, 2) := by decide +kernel
theorem d17_7 : decode prog_19_method_10_code 7 = .ok (.aload_n 0, 1) := by decide +kernel
theorem d17_8 : decode prog_19_method_10_code 8 = .ok (.getfield 14, 3) := by decide +kernel
theorem d17_11 : decode prog_19_method_10_code 11 = .ok (.iload 5, 2) := by decide +kernel
theorem d17_13 : decode prog_19_method_10_code 13 = .ok (.lload_n 1, 1) := by decide +kernel
theorem d17_14 : decode prog_19_method_10_code 14 = .ok (.lastore, 1) := by decide +kernel
theorem d17_15 : decode prog_19_method_10_code 15 = .ok (.aload_n 0, 1) := by decide +kernel
theorem d17_16 : decode prog_19_method_10_code 16 = .ok (.getfield 14, 3) := by decide +kernel
theorem d17_19 : decode prog_19_method_10_code 19 = .ok (.iload 5, 2) := by decide +kernel
theorem d17_21 : decode prog_19_method_10_code 21 = .ok (.iconst 1, 1) := by decide +kernel
theorem d17_22 : decode prog_19_method_10_code 22 = .ok (.iadd, 1) := by decide +kernel
theorem d17_23 : decode prog_19_method_10_code 23 = .ok (.lload_n 3, 1) := by decide +kernel
theorem d17_24 : decode prog_19_method_10_code 24 = .ok (.lastore, 1) := by decide +kernel
theorem d17_25 : decode prog_19_method_10_code 25 = .ok (.return_, 1) := by decide +kernel
theorem pn_17 : plainName "com/example/pricewright/pricewright/core/LongSumTable" = true := by first | (simp [plainName, overriddenIn]; done) | decide +kernel
theorem ef_rmP (m : MethodId) (a1 : Addr) (q2 : Int64) (q3 : Int64) : entryFrame m #[(.ref a1), (.long q2), (.long q3)] 6 = mkF m 0 #[.val (.ref a1), .val (.long q2), .second, .val (.long q3), .second, .unset] [] := by first | (simp [entryFrame, mkF, argsToLocals, Value.category]; done) | rfl
def QrmP (Z : State) (a1 : Addr) (q2 : Int64) (q3 : Int64) (a : Addr) (k : ClassId) (arr : List Int64) (n : Nat) (sh : Int32) (h0 : Heap) (n0 : Nat) (v : Option Value) (h : Heap) (L : List Loc) : Prop := v = none ∧ Fr n0 L ∧ Keep h0 h [a] ∧ ∃ i, i < n ∧ own_Idx (own_K arr) n (own_hs n q2) q2 i ∧ Arv Z h a k .long (Int32.ofNat (2 * n)) (((arr.set (2 * i) q2).set (2 * i + 1) q3).map Value.long) (.long (0 : Int64))
set_option maxRecDepth 65536 in
set_option maxHeartbeats 40000000 in
theorem rmP (l : Launch) (Z : State) (a0 : Array Value) (hw : ∀ d ∈ tables_1, d.before a0 Z = true) (ws : List Jvm.Cond) (a1 : Addr) (q2 : Int64) (q3 : Int64) (a : Addr) (k : ClassId) (arr : List Int64) (n : Nat) (sh : Int32) (h0 : Heap) (n0 : Nat) (Z0 : n0 ≤ h0.size) (hns : (n = 4 ∧ sh = 62) ∨ (n = 8 ∧ sh = 61)) (E : Exa Z h0 a1 "com/example/pricewright/pricewright/core/LongSumTable") (FS : Fld Z h0 a1 "com/example/pricewright/pricewright/core/LongSumTable" "slots" "[J" (.ref a)) (FH : Fld Z h0 a1 "com/example/pricewright/pricewright/core/LongSumTable" "shift" "I" (.int sh)) (AV : Arv Z h0 a k .long (Int32.ofNat (2 * n)) (arr.map Value.long) (.long (0 : Int64))) (hfr : ∃ j, j < n ∧ own_K arr j = own_FREE) (hlen : arr.length = 2 * n) (hne : a1 ≠ a) (ga : n0 ≤ a) :
    MetFree l (⟨"com/example/pricewright/pricewright/core/LongSumTable", "put", "(JJ)V"⟩ : MethodName) (head1 (Jvm.Cond.code (⟨"com/example/pricewright/pricewright/core/LongSumTable", "put", "(JJ)V"⟩ : MethodName) prog_19_method_10_code 6 none :: ws) ({ frames := 1, cells := 0, slots := 0, locals := 16 } : Room)) (fun a U => a = #[(.ref a1), (.long q2), (.long q3)] ∧ Z.Warmed39 U.vm ∧ U.heap = h0) (fun _ _ _ _ _ => True) (fun _ U o U' => ∃ v L, o = .returned v ∧ QrmP Z a1 q2 q3 a k arr n sh h0 n0 v U'.heap L ∧ FrameEnd U o U' L ({ frames := 1, cells := 0, slots := 0, locals := 16 } : Room).cells ({ frames := 1, cells := 0, slots := 0, locals := 16 } : Room).slots) := by
  refine MetFree.of_bodySF (plainFor_of_name pn_17) hisR ?_
  intro p e s m args below meth c s₁ Bd hml0 hP hK
  obtain ⟨rfl, hZ, hh⟩ := hP
  have hx := Bd.exec
  have hby := Bd.bytes
  have hml : c.maxLocals = 6 := hml0
  have hown : s.vm.findClass "com/example/pricewright/pricewright/core/LongSumTable" = some m.cls := findClass_of_methodNamed Bd.named
  have hnm := (name_of_methodNamed Bd.named Bd.method).1
  have X0 : Stand p l e ({ frames := 1, cells := 0, slots := 0, locals := 16 } : Room) s m #[(.ref a1), (.long q2), (.long q3)] below meth c s₁ [] 0 0 := Stand.of_body Bd
  have e0 : s₁.heap = h0 := by rw [← hh, Bd.state]; rfl
  have N0 := Fr.nil n0
  have pre0 : ∀ t, Steps p.tables e below (s₁.setTop (mkF m 0 #[.val (.ref a1), .val (.long q2), .second, .val (.long q3), .second, .unset] [])) t → Steps p.tables e below (s₁.setTop (entryFrame m #[(.ref a1), (.long q2), (.long q3)] 6)) t := fun t k => castTop (ef_rmP m a1 q2 q3) k
  have hn := own_hn hns
  obtain ⟨cq1, qq1, qq1'⟩ := E.cell
  obtain ⟨_, _, ⟨T1, Lq1, kq1, nq1⟩, -, X1, ⟨Lc1, hQ1, lq1, yq1, zq1⟩, st1⟩ := X0.privateBack hx (y := (⟨"com/example/pricewright/pricewright/core/LongSumTable", "index", "(J)I"⟩ : MethodName)) hown (mvT hZ (hw _ (own_w 40 rfl))) (mvT hZ (hw _ (own_w 41 rfl))) (own_selpriv (mvT hZ (hw _ (own_w 6 rfl))) (Cond.privateMethod_at (mvP hZ (hw _ (own_w 42 rfl)) (args := #[]))) (mvT hZ (hw _ (own_w 41 rfl))) (by decide)) (Cond.privateMethod_at (mvP hZ (hw _ (own_w 42 rfl)) (args := #[]))) (mvT hZ (hw _ (own_w 43 rfl))) (by decide) (backOf (W := 0) (rmX l Z a0 hw [] a1 q2 a k (arr) n sh h0 n0 Z0 hns FS FH AV hfr) hZ (hw _ (own_w 43 rfl)) (hw _ (own_w 7 rfl)) (by decide) (by decide)) (g := (mkF m 2 #[.val (.ref a1), .val (.long q2), .second, .val (.long q3), .second, .unset] [(.long q2), (.ref a1)])) rfl (by rw [hml]; rfl) (Steps.refl _) (a := a1) (by rw [e0]; exact qq1) qq1' (argsL := [(.long q2)]) (rest := []) (lenOf pd_1 rfl) rfl (by show 2 * 0 + _ ≤ _; exact Nat.le_of_eq rfl) (hb hby d17_2) (fun _ _ => ⟨rfl, e0, (by decide : 0 + 0 ≤ _), (by decide : 0 + 0 ≤ _)⟩)
  dsimp only [Pt.U, Pt.locs, Pt.cells, Pt.slots] at X1 lq1 yq1 zq1 st1 hQ1
  subst lq1 yq1 zq1
  obtain ⟨r1, hr1, rfl, N1q, e1⟩ := hQ1
  have N1 := Fr.app N0 N1q
  obtain ⟨i1, hi1, rfl, P1⟩ := hr1
  obtain ⟨T2, X2, e2, st2⟩ := getF X1 hx hZ hown (host := "") (Or.inl (hw _ (own_w 18 rfl))) Via.refl e1 FS (g := (mkF m 8 #[.val (.ref a1), .val (.long q2), .second, .val (.long q3), .second, .val (.int (own_p i1))] [(.ref a1)])) rfl rfl (hb hby d17_8)
  obtain ⟨cl3, Ar3, qk3, Sz3, Nn3, Hh3, Gg3⟩ := id (AV)
  have hin4 : ¬ ((own_p i1) < 0 ∨ cl3.slots.size ≤ ((own_p i1)).toNatClampNeg) := inb_of Sz3 ⟨own_p0 (own_lt8 hi1 hn), own_plt hi1 hn⟩
  obtain ⟨T4, h4, X4, e4, W4, st4⟩ := stJ X2 hx hZ e2 Ar3 (j := (own_p i1)) hin4 (g := (mkF m 14 #[.val (.ref a1), .val (.long q2), .second, .val (.long q3), .second, .val (.int (own_p i1))] [(.long q2), (.int (own_p i1)), (.ref a)])) rfl rfl (hb hby d17_14)
  have N4 := Fr.snoc X4 N1 ga
  have Z4 : n0 ≤ h4.size := by rw [W4.size]; exact Z0
  have K4 : Keep h0 h4 [a] := (Keep.refl h0 [a]).wr W4 (Or.inl (own_w 0 rfl))
  have V4 : Arv Z h4 a k .long (Int32.ofNat (2 * n)) ((arr.set (2 * i1) q2).map Value.long) (.long (0 : Int64)) := by
    have q := Arv.set Ar3 qk3 Sz3 Nn3 Hh3 Gg3 rfl W4 (2 * i1) (own_pN (own_lt8 hi1 hn)) (by rw [List.length_map, hlen]; omega)
    rw [List.map_set]; exact q
  have f5 := (FS.other W4 (Or.inl hne))
  obtain ⟨T6, X6, e6, st6⟩ := getF X4 hx hZ hown (host := "") (Or.inl (hw _ (own_w 18 rfl))) Via.refl e4 f5 (g := (mkF m 16 #[.val (.ref a1), .val (.long q2), .second, .val (.long q3), .second, .val (.int (own_p i1))] [(.ref a1)])) rfl rfl (hb hby d17_16)
  obtain ⟨cl7, Ar7, qk7, Sz7, Nn7, Hh7, Gg7⟩ := id (V4)
  have hin8 : ¬ (((own_p i1) + (1 : Int32)) < 0 ∨ cl7.slots.size ≤ (((own_p i1) + (1 : Int32))).toNatClampNeg) := inb_of Sz7 ⟨own_q0 (own_lt8 hi1 hn), own_qlt hi1 hn⟩
  obtain ⟨T8, h8, X8, e8, W8, st8⟩ := stJ X6 hx hZ e6 Ar7 (j := ((own_p i1) + (1 : Int32))) hin8 (g := (mkF m 24 #[.val (.ref a1), .val (.long q2), .second, .val (.long q3), .second, .val (.int (own_p i1))] [(.long q3), (.int ((own_p i1) + (1 : Int32))), (.ref a)])) rfl rfl (hb hby d17_24)
  have N8 := Fr.snoc X8 N4 ga
  have Z8 : n0 ≤ h8.size := by rw [W8.size]; exact Z4
  have K8 : Keep h0 h8 [a] := K4.wr W8 (Or.inl (own_w 0 rfl))
  have V8 : Arv Z h8 a k .long (Int32.ofNat (2 * n)) (((arr.set (2 * i1) q2).set (2 * i1 + 1) q3).map Value.long) (.long (0 : Int64)) := by
    have q := Arv.set Ar7 qk7 Sz7 Nn7 Hh7 Gg7 rfl W8 (2 * i1 + 1) (own_qN (own_lt8 hi1 hn)) (by rw [List.length_map, List.length_set, hlen]; omega)
    rw [List.map_set]; exact q
  obtain ⟨fs, hr, hrun, hended, hW, hsame⟩ := X8.leave (v := none) (fun _ => rfl) (BodyLoose.notSynchronized Bd)
  refine ⟨_, _, pre0 _ ?_, hrun, hended, _, _, rfl, ?_, ⟨_, rfl⟩, hW, hsame.mono (by decide) (by decide)⟩
  · show Steps p.tables e below (s₁.setTop (mkF m 0 #[.val (.ref a1), .val (.long q2), .second, .val (.long q3), .second, .unset] [])) _
    refine XS.aloadN X0.here hx rfl (hb hby d17_0) rfl rfl ?_
    refine XS.lloadN X0.here hx rfl (hb hby d17_1) rfl ?_
    refine st1.trans ?_
    refine XS.istore X1.here hx rfl (hb hby d17_5) rfl (l' := #[.val (.ref a1), .val (.long q2), .second, .val (.long q3), .second, .val (.int (own_p i1))]) rfl ?_
    refine XS.aloadN X1.here hx rfl (hb hby d17_7) rfl rfl ?_
    refine st2 _ ?_
    refine XS.iload X2.here hx rfl (hb hby d17_11) rfl ?_
    refine XS.lloadN X2.here hx rfl (hb hby d17_13) rfl ?_
    refine st4 _ ?_
    refine XS.aloadN X4.here hx rfl (hb hby d17_15) rfl rfl ?_
    refine st6 _ ?_
    refine XS.iload X6.here hx rfl (hb hby d17_19) rfl ?_
    refine XS.iconst X6.here hx rfl (hb hby d17_21) ?_
    refine XS.iadd X6.here hx rfl (hb hby d17_22) rfl ?_
    refine XS.lloadN X6.here hx rfl (hb hby d17_23) rfl ?_
    refine st8 _ ?_
    show Steps p.tables e below (T8.setTop (mkF m 25 #[.val (.ref a1), .val (.long q2), .second, .val (.long q3), .second, .val (.int (own_p i1))] [])) _
    exact X8.returnOut hx Bd.returns (hb hby d17_25) hr
  · show QrmP Z a1 q2 q3 a k arr n sh h0 n0 _ T8.heap _
    rw [e8]
    exact ⟨rfl, N8, K8, i1, hi1, P1, V8⟩
def own_Tab (Z : State) (h : Heap) (n0 : Nat) (t : Addr) (n : Nat) (D : Int64 → Prop) (mm : Int64 → Int64) (sz : Nat) (so : Value) : Prop :=
  ∃ (a : Addr) (k : ClassId) (arr : List Int64) (sh : Int32), ((n = 4 ∧ sh = 62) ∨ (n = 8 ∧ sh = 61)) ∧ n0 ≤ a ∧ Exa Z h t "com/example/pricewright/pricewright/core/LongSumTable" ∧ Fld Z h t "com/example/pricewright/pricewright/core/LongSumTable" "slots" "[J" (.ref a) ∧ Fld Z h t "com/example/pricewright/pricewright/core/LongSumTable" "shift" "I" (.int sh) ∧ Fld Z h t "com/example/pricewright/pricewright/core/LongSumTable" "size" "I" (.int (Int32.ofNat sz)) ∧ Fld Z h t "com/example/pricewright/pricewright/core/LongSumTable" "sorted" "[J" so ∧ Arv Z h a k .long (Int32.ofNat (2 * n)) (arr.map Value.long) (.long (0 : Int64)) ∧ arr.length = 2 * n ∧ own_Rep (own_K arr) (own_W arr) n (own_hs n) D mm sz
theorem own_sz1 {sz : Nat} (h : sz ≤ 2) : Int32.ofNat sz + (1 : Int32) = Int32.ofNat (sz + 1) := (by decide +kernel : ∀ j : Fin 3, Int32.ofNat j.1 + (1 : Int32) = Int32.ofNat (j.1 + 1)) ⟨sz, by omega⟩
theorem own_sz2 {sz : Nat} (h : sz ≤ 2) (q : (2 : Int32) < Int32.ofNat sz + (1 : Int32)) : sz = 2 := (by decide +kernel : ∀ j : Fin 3, (2 : Int32) < Int32.ofNat j.1 + (1 : Int32) → j.1 = 2) ⟨sz, by omega⟩ q
theorem own_sz3 {sz : Nat} (h : sz ≤ 2) (q : ¬ (2 : Int32) < Int32.ofNat sz + (1 : Int32)) : sz ≤ 1 := (by decide +kernel : ∀ j : Fin 3, ¬ (2 : Int32) < Int32.ofNat j.1 + (1 : Int32) → j.1 ≤ 1) ⟨sz, by omega⟩ q
theorem own_repK {arr : List Int64} {i n : Nat} {k v : Int64} {hs : Int64 → Nat} {D : Int64 → Prop} {mm : Int64 → Int64} {sz : Nat} (hl : arr.length = 2 * n) (R : own_Rep (own_K arr) (own_W arr) n hs D mm sz) (hi : i < n) (hk : k ≠ own_FREE) (I : own_Idx (own_K arr) n (hs k) k i) (hne : ¬ own_K arr i = k) :
    ¬ D k ∧ own_Rep (own_K ((arr.set (2 * i) k).set (2 * i + 1) v)) (own_W ((arr.set (2 * i) k).set (2 * i + 1) v)) n hs (fun x => D x ∨ x = k) (fun x => if x = k then mm k + v else mm x) (sz + 1) := by
  have hf : own_K arr i = own_FREE := by obtain ⟨-, -, -, q | q⟩ := I; exact absurd q hne; exact q
  have hD := own_rep_none R I hf
  refine ⟨hD, ?_⟩
  rw [own_Kins hl hi, own_Wins hl hi]
  refine own_rep_eq (own_rep_put R hi hk I hf v) (fun _ => Iff.rfl) (fun x => ?_) rfl
  by_cases q : x = k
  · rw [if_pos q, if_pos q, R.2.2.1 k hD, Int64.zero_add]
  · rw [if_neg q, if_neg q]
theorem own_repW {arr : List Int64} {i n : Nat} {k v : Int64} {hs : Int64 → Nat} {D : Int64 → Prop} {mm : Int64 → Int64} {sz : Nat} (hl : arr.length = 2 * n) (R : own_Rep (own_K arr) (own_W arr) n hs D mm sz) (hi : i < n) (hk : k ≠ own_FREE) (he : own_K arr i = k) :
    D k ∧ own_Rep (own_K (arr.set (2 * i + 1) (own_W arr i + v))) (own_W (arr.set (2 * i + 1) (own_W arr i + v))) n hs (fun x => D x ∨ x = k) (fun x => if x = k then mm k + v else mm x) sz := by
  obtain ⟨hD, hW⟩ := own_rep_dom R hi hk he
  refine ⟨hD, ?_⟩
  rw [own_Kset, own_Wset hl hi]
  refine own_rep_eq (own_rep_found R hi hk he (own_W arr i + v)) (fun x => ⟨Or.inl, fun q => q.elim id fun z => z ▸ hD⟩) (fun x => ?_) rfl
  rw [hW]

theorem pd_3 : parseMethodDescriptor "(JJ)V" = some ⟨[.long, .long], none⟩ := by decide +kernel
theorem d16_0 : decode prog_19_method_9_code 0 = .ok (.new 3, 3) := by decide +kernel
theorem d16_3 : decode prog_19_method_9_code 3 = .ok (.dup, 1) := by decide +kernel
theorem d16_4 : decode prog_19_method_9_code 4 = .ok (.iload_n 1, 1) := by decide +kernel
theorem d16_5 : decode prog_19_method_9_code 5 = .ok (.invokespecial 5, 3) := by decide +kernel
theorem d16_8 : decode prog_19_method_9_code 8 = .ok (.astore_n 2, 1) := by decide +kernel
theorem d16_9 : decode prog_19_method_9_code 9 = .ok (.iconst 0, 1) := by decide +kernel
theorem d16_10 : decode prog_19_method_9_code 10 = .ok (.istore_n 3, 1) := by decide +kernel
theorem d16_11 : decode prog_19_method_9_code 11 = .ok (.iload_n 3, 1) := by decide +kernel
theorem d16_12 : decode prog_19_method_9_code 12 = .ok (.aload_n 0, 1) := by decide +kernel
theorem d16_13 : decode prog_19_method_9_code 13 = .ok (.getfield 14, 3) := by decide +kernel
theorem d16_16 : decode prog_19_method_9_code 16 = .ok (.arraylength, 1) := by decide +kernel
theorem d16_17 : decode prog_19_method_9_code 17 = .ok (.if_icmp .ge 40, 3) := by decide +kernel
theorem d16_20 : decode prog_19_method_9_code 20 = .ok (.aload_n 0, 1) := by decide +kernel
theorem d16_21 : decode prog_19_method_9_code 21 = .ok (.getfield 14, 3) := by decide +kernel
theorem d16_24 : decode prog_19_method_9_code 24 = .ok (.iload_n 3, 1) := by decide +kernel
theorem d16_25 : decode prog_19_method_9_code 25 = .ok (.laload, 1) := by decide +kernel
theorem d16_26 : decode prog_19_method_9_code 26 = .ok (.ldc2_w 18, 3) := by decide +kernel
theorem d16_29 : decode prog_19_method_9_code 29 = .ok (.lcmp, 1) := by decide +kernel
theorem d16_30 : decode prog_19_method_9_code 30 = .ok (.ifCond .eq 21, 3) := by decide +kernel
theorem d16_33 : decode prog_19_method_9_code 33 = .ok (.aload_n 2, 1) := by decide +kernel
theorem d16_34 : decode prog_19_method_9_code 34 = .ok (.aload_n 0, 1) := by decide +kernel
theorem d16_35 : decode prog_19_method_9_code 35 = .ok (.getfield 14, 3) := by decide +kernel
theorem d16_38 : decode prog_19_method_9_code 38 = .ok (.iload_n 3, 1) := by decide +kernel
theorem d16_39 : decode prog_19_method_9_code 39 = .ok (.laload, 1) := by decide +kernel
theorem d16_40 : decode prog_19_method_9_code 40 = .ok (.aload_n 0, 1) := by decide +kernel
theorem d16_41 : decode prog_19_method_9_code 41 = .ok (.getfield 14, 3) := by decide +kernel
theorem d16_44 : decode prog_19_method_9_code 44 = .ok (.iload_n 3, 1) := by decide +kernel
theorem d16_45 : decode prog_19_method_9_code 45 = .ok (.iconst 1, 1) := by decide +kernel
theorem d16_46 : decode prog_19_method_9_code 46 = .ok (.iadd, 1) := by decide +kernel
theorem d16_47 : decode prog_19_method_9_code 47 = .ok (.laload, 1) := by decide +kernel
theorem d16_48 : decode prog_19_method_9_code 48 = .ok (.invokevirtual 59, 3) := by decide +kernel
theorem d16_51 : decode prog_19_method_9_code 51 = .ok (.iinc 3 2, 3) := by decide +kernel
theorem d16_54 : decode prog_19_method_9_code 54 = .ok (.goto (-43), 3) := by decide +kernel
theorem d16_57 : decode prog_19_method_9_code 57 = .ok (.aload_n 0, 1) := by decide +kernel
theorem d16_58 : decode prog_19_method_9_code 58 = .ok (.aload_n 2, 1) := by decide +kernel
theorem d16_59 : decode prog_19_method_9_code 59 = .ok (.getfield 14, 3) := by decide +kernel
theorem d16_62 : decode prog_19_method_9_code 62 = .ok (.putfield 14, 3) := by decide +kernel
theorem d16_65 : decode prog_19_method_9_code 65 = .ok (.aload_n 0, 1) := by decide +kernel
theorem d16_66 : decode prog_19_method_9_code 66 = .ok (.aload_n 2, 1) := by decide +kernel
theorem d16_67 : decode prog_19_method_9_code 67 = .ok (.getfield 24, 3) := by decide +kernel
theorem d16_70 : decode prog_19_method_9_code 70 = .ok (.putfield 24, 3) := by decide +kernel
theorem d16_73 : decode prog_19_method_9_code 73 = .ok (.return_, 1) := by decide +kernel
theorem pn_16 : plainName "com/example/pricewright/pricewright/core/LongSumTable" = true := by first | (simp [plainName, overriddenIn]; done) | decide +kernel
theorem ef_rmR (m : MethodId) (a1 : Addr) : entryFrame m #[(.ref a1), (.int (8 : Int32))] 4 = mkF m 0 #[.val (.ref a1), .val (.int (8 : Int32)), .unset, .unset] [] := by first | (simp [entryFrame, mkF, argsToLocals, Value.category]; done) | rfl
def QrmR (Z : State) (a1 : Addr) (a : Addr) (k : ClassId) (arr : List Int64) (zi : Int32) (D : Int64 → Prop) (mm : Int64 → Int64) (sz : Nat) (h0 : Heap) (n0 : Nat) (v : Option Value) (h : Heap) (L : List Loc) : Prop := v = none ∧ Fr n0 L ∧ n0 ≤ h.size ∧ Keep h0 h [a1] ∧ ∃ (a' : Addr) (k' : ClassId) (arr' : List Int64), n0 ≤ a' ∧ Exa Z h a1 "com/example/pricewright/pricewright/core/LongSumTable" ∧ Fld Z h a1 "com/example/pricewright/pricewright/core/LongSumTable" "slots" "[J" (.ref a') ∧ Fld Z h a1 "com/example/pricewright/pricewright/core/LongSumTable" "shift" "I" (.int (61 : Int32)) ∧ Fld Z h a1 "com/example/pricewright/pricewright/core/LongSumTable" "size" "I" (.int zi) ∧ Fld Z h a1 "com/example/pricewright/pricewright/core/LongSumTable" "sorted" "[J" .null ∧ Arv Z h a' k' .long (16 : Int32) (arr'.map Value.long) (.long (0 : Int64)) ∧ arr'.length = 2 * 8 ∧ own_Rep (own_K arr') (own_W arr') 8 (own_hs 8) D mm sz
set_option maxRecDepth 65536 in
set_option maxHeartbeats 40000000 in
theorem rmR (l : Launch) (Z : State) (a0 : Array Value) (hw : ∀ d ∈ tables_1, d.before a0 Z = true) (ws : List Jvm.Cond) (a1 : Addr) (a : Addr) (k : ClassId) (arr : List Int64) (zi : Int32) (D : Int64 → Prop) (mm : Int64 → Int64) (sz : Nat) (h0 : Heap) (n0 : Nat) (Z0 : n0 ≤ h0.size) (E : Exa Z h0 a1 "com/example/pricewright/pricewright/core/LongSumTable") (FS : Fld Z h0 a1 "com/example/pricewright/pricewright/core/LongSumTable" "slots" "[J" (.ref a)) (FH : Fld Z h0 a1 "com/example/pricewright/pricewright/core/LongSumTable" "shift" "I" (.int (62 : Int32))) (FZ : Fld Z h0 a1 "com/example/pricewright/pricewright/core/LongSumTable" "size" "I" (.int zi)) (FQ : Fld Z h0 a1 "com/example/pricewright/pricewright/core/LongSumTable" "sorted" "[J" .null) (AV : Arv Z h0 a k .long (8 : Int32) (arr.map Value.long) (.long (0 : Int64))) (hlen : arr.length = 2 * 4) (hne : a1 ≠ a) (ga1 : n0 ≤ a1) (ga : n0 ≤ a) (Rp : own_Rep (own_K arr) (own_W arr) 4 (own_hs 4) D mm sz) :
    MetFree l (⟨"com/example/pricewright/pricewright/core/LongSumTable", "resize", "(I)V"⟩ : MethodName) (head1 (Jvm.Cond.code (⟨"com/example/pricewright/pricewright/core/LongSumTable", "resize", "(I)V"⟩ : MethodName) prog_19_method_9_code 4 none :: ws) ({ frames := 3, cells := 2, slots := 20, locals := 44 } : Room)) (fun a U => a = #[(.ref a1), (.int (8 : Int32))] ∧ Z.Warmed39 U.vm ∧ U.heap = h0) (fun _ _ _ _ _ => True) (fun _ U o U' => ∃ v L, o = .returned v ∧ QrmR Z a1 a k arr zi D mm sz h0 n0 v U'.heap L ∧ FrameEnd U o U' L ({ frames := 3, cells := 2, slots := 20, locals := 44 } : Room).cells ({ frames := 3, cells := 2, slots := 20, locals := 44 } : Room).slots) := by
  refine MetFree.of_bodySF (plainFor_of_name pn_16) hisR ?_
  intro p e s m args below meth c s₁ Bd hml0 hP hK
  obtain ⟨rfl, hZ, hh⟩ := hP
  have hx := Bd.exec
  have hby := Bd.bytes
  have hml : c.maxLocals = 4 := hml0
  have hown : s.vm.findClass "com/example/pricewright/pricewright/core/LongSumTable" = some m.cls := findClass_of_methodNamed Bd.named
  have hnm := (name_of_methodNamed Bd.named Bd.method).1
  have X0 : Stand p l e ({ frames := 3, cells := 2, slots := 20, locals := 44 } : Room) s m #[(.ref a1), (.int (8 : Int32))] below meth c s₁ [] 0 0 := Stand.of_body Bd
  have e0 : s₁.heap = h0 := by rw [← hh, Bd.state]; rfl
  have N0 := Fr.nil n0
  have pre0 : ∀ t, Steps p.tables e below (s₁.setTop (mkF m 0 #[.val (.ref a1), .val (.int (8 : Int32)), .unset, .unset] [])) t → Steps p.tables e below (s₁.setTop (entryFrame m #[(.ref a1), (.int (8 : Int32))] 4)) t := fun t k => castTop (ef_rmR m a1) k
  obtain ⟨T1, h1, X1, e1, E1, A1, D1, -, st1⟩ := newO X0 hx hZ hown (hw _ (own_w 76 rfl)) (hw _ (own_w 6 rfl)) (hw _ (own_w 7 rfl)) e0 (g := (mkF m 0 #[.val (.ref a1), .val (.int (8 : Int32)), .unset, .unset] [])) rfl (hb hby d16_0) (by decide) (by decide)
  obtain ⟨b1o, g1⟩ : ∃ z, z = h0.size := ⟨_, rfl⟩
  have b1 : n0 ≤ b1o := Nat.le_trans Z0 (Nat.le_of_eq g1.symm)
  have bk1 : h0.size ≤ b1o := Nat.le_trans (Keep.refl h0 [a1]).1 (Nat.le_of_eq g1.symm)
  have ne2 : a1 ≠ b1o := Nat.ne_of_lt (Nat.lt_of_lt_of_le E.lt (Nat.le_of_eq g1.symm))
  have ne3 : a ≠ b1o := Nat.ne_of_lt (Nat.lt_of_lt_of_le AV.lt (Nat.le_of_eq g1.symm))
  rw [← g1] at A1 D1 st1
  have Z1 : n0 ≤ h1.size := Nat.le_trans Z0 E1.1
  have K1 : Keep h0 h1 [a1] := (Keep.refl h0 [a1]).ext E1
  have F1_19 : Fld Z h1 b1o "com/example/pricewright/pricewright/core/LongSumTable" "slots" "[J" .null := D1 (Or.inl (hw _ (own_w 19 rfl))) (ty := (.array .long)) (by decide)
  have F1_31 : Fld Z h1 b1o "com/example/pricewright/pricewright/core/LongSumTable" "shift" "I" (.int (0 : Int32)) := D1 (Or.inl (hw _ (own_w 31 rfl))) (ty := .int) (by decide)
  have F1_46 : Fld Z h1 b1o "com/example/pricewright/pricewright/core/LongSumTable" "sorted" "[J" .null := D1 (Or.inl (hw _ (own_w 46 rfl))) (ty := (.array .long)) (by decide)
  have F1_48 : Fld Z h1 b1o "com/example/pricewright/pricewright/core/LongSumTable" "size" "I" (.int (0 : Int32)) := D1 (Or.inl (hw _ (own_w 48 rfl))) (ty := .int) (by decide)
  have f5 := (E.ext E1)
  have f6 := (FS.ext E1)
  have f7 := (FH.ext E1)
  have f8 := (FZ.ext E1)
  have f9 := (FQ.ext E1)
  have f10 := (AV.ext E1)
  obtain ⟨_, _, ⟨T4, Lq4, kq4, nq4⟩, -, X4, ⟨Lc4, hQ4, lq4, yq4, zq4⟩, st4⟩ := X1.specialBack hx (y := (⟨"com/example/pricewright/pricewright/core/LongSumTable", "<init>", "(I)V"⟩ : MethodName)) rfl hown (mvT hZ (hw _ (own_w 11 rfl))) (mvT hZ (hw _ (own_w 12 rfl))) (mvT hZ (hw _ (own_w 13 rfl))) (by decide) (backOf (W := 1) (rmI8 l Z a0 hw [] b1o  h1 n0 Z1 A1 F1_19 F1_31 F1_48 F1_46 b1) hZ (hw _ (own_w 13 rfl)) (hw _ (own_w 7 rfl)) (by decide) (by decide)) (g := (mkF m 5 #[.val (.ref a1), .val (.int (8 : Int32)), .unset, .unset] [(.int (8 : Int32)), (.ref b1o), (.ref b1o)])) rfl (by rw [hml]; rfl) (Steps.refl _) (a := b1o) (argsL := [(.int (8 : Int32))]) (rest := [(.ref b1o)]) (lenOf pd_2 rfl) rfl (by show 2 * 0 + _ ≤ _; exact Nat.le_of_eq rfl) (hb hby d16_5) (fun _ _ => ⟨rfl, e1, (by decide : 1 + 1 ≤ _), (by decide : 4 + 16 ≤ _)⟩)
  dsimp only [Pt.U, Pt.locs, Pt.cells, Pt.slots] at X4 lq4 yq4 zq4 st4 hQ4
  subst lq4 yq4 zq4
  obtain ⟨rfl, N4q, KC4, u4⟩ := hQ4
  have N4 := Fr.app N0 N4q
  have Z4 : n0 ≤ T4.heap.size := Nat.le_trans Z1 KC4.1
  have K4 : Keep h0 T4.heap [a1] := K1.trans KC4 (allS (Or.inr bk1) all0)
  obtain ⟨sa4, sk4, ga4, gk4, EI4, FS4, FH4, FZ4, FQ4, AV4⟩ := id u4
  have net4 : b1o ≠ sa4 := ne_arrV (EI4) (hw _ (own_w 6 rfl)) AV4
  have ne11 : a1 ≠ sa4 := Nat.ne_of_lt (Nat.lt_of_lt_of_le f9.lt gk4)
  have ne12 : a ≠ sa4 := Nat.ne_of_lt (Nat.lt_of_lt_of_le f10.lt gk4)
  have rep0 := own_part_none (K := own_K arr) (W2 := own_W own_new8) (hs2 := own_hs 8) (m := mm) own_new8K
  have tn13 : ∃ (T' : State) (h' : Heap) (arr2 : List Int64) (L' : List Loc), Stand p l e ({ frames := 3, cells := 2, slots := 20, locals := 44 } : Room) s m #[(.ref a1), (.int (8 : Int32))] below meth c T' L' 2 20 ∧ T'.heap = h' ∧ Fr n0 L' ∧ n0 ≤ h'.size ∧ Keep T4.heap h' [sa4] ∧ arr2.length = 2 * 8 ∧ Arv Z h' sa4 sk4 .long (16 : Int32) (arr2.map Value.long) (.long (0 : Int64)) ∧ own_Rep (own_K arr2) (own_W arr2) 8 (own_hs 8) (own_Part (own_K arr) 1) (fun x => @ite _ (own_Part (own_K arr) 1 x) (Classical.propDecidable _) (mm x) 0) (own_cnt (own_K arr) 1) ∧ ∀ target, Steps p.tables e below (T'.setTop (mkF m 11 #[.val (.ref a1), .val (.int (8 : Int32)), .val (.ref b1o), .val (.int (2 : Int32))] [])) target → Steps p.tables e below (T4.setTop (mkF m 11 #[.val (.ref a1), .val (.int (8 : Int32)), .val (.ref b1o), .val (.int (0 : Int32))] [])) target := by
    have f14 := (f6.keep KC4 (ninS ne2 nin0))
    obtain ⟨T15, X15, e15, st15⟩ := getF X4 hx hZ hown (host := "") (Or.inl (hw _ (own_w 18 rfl))) Via.refl rfl f14 (g := (mkF m 13 #[.val (.ref a1), .val (.int (8 : Int32)), .val (.ref b1o), .val (.int (0 : Int32))] [(.ref a1), (.int (0 : Int32))])) rfl rfl (hb hby d16_13)
    have f16 := (f10.keep KC4 (ninS ne3 nin0))
    obtain ⟨cl17, Ar17, qk17, Sz17, Nn17, Hh17, Gg17⟩ := id (f16)
    obtain ⟨T18, X18, e18, st18⟩ := getF X15 hx hZ hown (host := "") (Or.inl (hw _ (own_w 18 rfl))) Via.refl e15 f14 (g := (mkF m 21 #[.val (.ref a1), .val (.int (8 : Int32)), .val (.ref b1o), .val (.int (0 : Int32))] [(.ref a1)])) rfl rfl (hb hby d16_21)
    obtain ⟨cl19, Ar19, qk19, Sz19, Nn19, Hh19, Gg19⟩ := id (f16)
    have hin20 : ¬ ((0 : Int32) < 0 ∨ cl19.slots.size ≤ ((0 : Int32)).toNatClampNeg) := inb_of Sz19 ⟨by decide, by decide⟩
    have hat20 : cl19.slots[((0 : Int32)).toNatClampNeg]? = some (.long (own_K arr 0)) := Has.at Hh19 hin20 (own_ld arr 0)
    by_cases hc30 : (own_K arr 0) = (-9223372036854775808 : Int64)
    · refine ⟨T18, _, own_new8, _, X18, e18, N4, Z4, Keep.refl _ _, (rfl : own_new8.length = 2 * 8), AV4, own_part_skip rep0 hc30, fun target kt => ?_⟩
      show Steps p.tables e below (T4.setTop (mkF m 11 #[.val (.ref a1), .val (.int (8 : Int32)), .val (.ref b1o), .val (.int (0 : Int32))] [])) _
      refine XS.iloadN X4.here hx rfl (hb hby d16_11) rfl ?_
      refine XS.aloadN X4.here hx rfl (hb hby d16_12) rfl rfl ?_
      refine st15 _ ?_
      refine X15.arraylength hx (by rw [e15]; exact Ar17.1) (State.isArrayOf_alike hZ.alike Ar17.2.1) (g := (mkF m 16 #[.val (.ref a1), .val (.int (8 : Int32)), .val (.ref b1o), .val (.int (0 : Int32))] [(.ref a), (.int (0 : Int32))])) rfl rfl (hb hby d16_16) _ ?_
      rw [len_of Sz17 Nn17]
      show Steps p.tables e below (T15.setTop (mkF m 17 #[.val (.ref a1), .val (.int (8 : Int32)), .val (.ref b1o), .val (.int (0 : Int32))] [(.int (8 : Int32)), (.int (0 : Int32))])) _
      refine XS.icmpNo X15.here hx rfl (hb hby d16_17) rfl (tlt (by decide)).2.1 ?_
      refine XS.aloadN X15.here hx rfl (hb hby d16_20) rfl rfl ?_
      refine st18 _ ?_
      refine XS.iloadN X18.here hx rfl (hb hby d16_24) rfl ?_
      refine X18.laload hx (j := (0 : Int32)) (v := (.long (own_K arr 0))) (by rw [e18]; exact Ar19.1) (State.isArrayOf_alike hZ.alike Ar19.2.1) Ar19.2.2 hin20 hat20 (g := (mkF m 25 #[.val (.ref a1), .val (.int (8 : Int32)), .val (.ref b1o), .val (.int (0 : Int32))] [(.int (0 : Int32)), (.ref a)])) rfl rfl (hb hby d16_25) _ ?_
      refine X18.ldc2Long hx hown (mvT hZ (hw _ (own_w 20 rfl))) (g := (mkF m 26 #[.val (.ref a1), .val (.int (8 : Int32)), .val (.ref b1o), .val (.int (0 : Int32))] [(.long (own_K arr 0))])) rfl (hb hby d16_26) _ ?_
      refine XS.lcmp X18.here hx rfl (hb hby d16_29) rfl ?_
      refine XS.ifYes X18.here hx rfl (pc0 := 30) (pc' := 51) rfl (hb hby d16_30) rfl ((if0 _ _).trans (teq (own_lceq hc30)).1) (by decide) (by decide) ?_
      refine XS.iinc X18.here hx rfl (hb hby d16_51) rfl (l' := #[.val (.ref a1), .val (.int (8 : Int32)), .val (.ref b1o), .val (.int (2 : Int32))]) rfl ?_
      refine XS.goto X18.here hx rfl (pc0 := 54) (pc' := 11) rfl (hb hby d16_54) (by decide) (by decide) ?_
      exact kt
    · obtain ⟨T21, X21, e21, st21⟩ := getF X18 hx hZ hown (host := "") (Or.inl (hw _ (own_w 18 rfl))) Via.refl e18 f14 (g := (mkF m 35 #[.val (.ref a1), .val (.int (8 : Int32)), .val (.ref b1o), .val (.int (0 : Int32))] [(.ref a1), (.ref b1o)])) rfl rfl (hb hby d16_35)
      obtain ⟨cl22, Ar22, qk22, Sz22, Nn22, Hh22, Gg22⟩ := id (f16)
      have hin23 : ¬ ((0 : Int32) < 0 ∨ cl22.slots.size ≤ ((0 : Int32)).toNatClampNeg) := inb_of Sz22 ⟨by decide, by decide⟩
      have hat23 : cl22.slots[((0 : Int32)).toNatClampNeg]? = some (.long (own_K arr 0)) := Has.at Hh22 hin23 (own_ld arr 0)
      obtain ⟨T24, X24, e24, st24⟩ := getF X21 hx hZ hown (host := "") (Or.inl (hw _ (own_w 18 rfl))) Via.refl e21 f14 (g := (mkF m 41 #[.val (.ref a1), .val (.int (8 : Int32)), .val (.ref b1o), .val (.int (0 : Int32))] [(.ref a1), (.long (own_K arr 0)), (.ref b1o)])) rfl rfl (hb hby d16_41)
      obtain ⟨cl25, Ar25, qk25, Sz25, Nn25, Hh25, Gg25⟩ := id (f16)
      have hin26 : ¬ ((1 : Int32) < 0 ∨ cl25.slots.size ≤ ((1 : Int32)).toNatClampNeg) := inb_of Sz25 ⟨by decide, by decide⟩
      have hat26 : cl25.slots[((1 : Int32)).toNatClampNeg]? = some (.long (own_W arr 0)) := Has.at Hh25 hin26 (own_ld arr 1)
      have hfr : ∃ j, j < 8 ∧ own_K (own_new8) j = own_FREE := own_cnt_free (by rw [rep0.2.2.2]; have := own_cnt_le (own_K arr) 0; omega)
      obtain ⟨cq27, qq27, qq27'⟩ := EI4.cell
      obtain ⟨_, _, ⟨T27, Lq27, kq27, nq27⟩, -, X27, ⟨Lc27, hQ27, lq27, yq27, zq27⟩, st27⟩ := X24.privateBack hx (y := (⟨"com/example/pricewright/pricewright/core/LongSumTable", "put", "(JJ)V"⟩ : MethodName)) hown (mvT hZ (hw _ (own_w 77 rfl))) (mvT hZ (hw _ (own_w 78 rfl))) (own_selpriv (mvT hZ (hw _ (own_w 6 rfl))) (Cond.privateMethod_at (mvP hZ (hw _ (own_w 79 rfl)) (args := #[]))) (mvT hZ (hw _ (own_w 78 rfl))) (by decide)) (Cond.privateMethod_at (mvP hZ (hw _ (own_w 79 rfl)) (args := #[]))) (mvT hZ (hw _ (own_w 80 rfl))) (by decide) (backOf (W := 0) (rmP l Z a0 hw [] b1o (own_K arr 0) (own_W arr 0) sa4 sk4 (own_new8) 8 (61 : Int32) T4.heap n0 Z4 (Or.inr ⟨rfl, rfl⟩) EI4 FS4 FH4 AV4 hfr (rfl : own_new8.length = 2 * 8) net4 ga4) hZ (hw _ (own_w 80 rfl)) (hw _ (own_w 7 rfl)) (by decide) (by decide)) (g := (mkF m 48 #[.val (.ref a1), .val (.int (8 : Int32)), .val (.ref b1o), .val (.int (0 : Int32))] [(.long (own_W arr 0)), (.long (own_K arr 0)), (.ref b1o)])) rfl (by rw [hml]; rfl) (Steps.refl _) (a := b1o) (by rw [e24]; exact qq27) qq27' (argsL := [(.long (own_K arr 0)), (.long (own_W arr 0))]) (rest := []) (lenOf pd_3 rfl) rfl (by show 2 * 0 + _ ≤ _; exact Nat.le_of_eq rfl) (hb hby d16_48) (fun _ _ => ⟨rfl, e24, (by decide : 2 + 0 ≤ _), (by decide : 20 + 0 ≤ _)⟩)
      dsimp only [Pt.U, Pt.locs, Pt.cells, Pt.slots] at X27 lq27 yq27 zq27 st27 hQ27
      subst lq27 yq27 zq27
      obtain ⟨rfl, N27q, KC27, u27⟩ := hQ27
      have N27 := Fr.app N4 N27q
      have Z27 : n0 ≤ T27.heap.size := Nat.le_trans Z4 KC27.1
      obtain ⟨i27, hi27, P27, AV27⟩ := u27
      have pp := own_part_put Rp (i := 0) (by decide) hc30 rep0 hi27 P27
      refine ⟨T27, _, ((own_new8.set (2 * i27) (own_K arr 0)).set (2 * i27 + 1) (own_W arr 0)), _, X27, rfl, N27, Z27, KC27, by rw [List.length_set, List.length_set]; exact (rfl : own_new8.length = 2 * 8), AV27, by rw [own_Kins (rfl : own_new8.length = 2 * 8) hi27, own_Wins (rfl : own_new8.length = 2 * 8) hi27]; exact pp.2, fun target kt => ?_⟩
      refine XS.iloadN X4.here hx rfl (hb hby d16_11) rfl ?_
      refine XS.aloadN X4.here hx rfl (hb hby d16_12) rfl rfl ?_
      refine st15 _ ?_
      refine X15.arraylength hx (by rw [e15]; exact Ar17.1) (State.isArrayOf_alike hZ.alike Ar17.2.1) (g := (mkF m 16 #[.val (.ref a1), .val (.int (8 : Int32)), .val (.ref b1o), .val (.int (0 : Int32))] [(.ref a), (.int (0 : Int32))])) rfl rfl (hb hby d16_16) _ ?_
      rw [len_of Sz17 Nn17]
      show Steps p.tables e below (T15.setTop (mkF m 17 #[.val (.ref a1), .val (.int (8 : Int32)), .val (.ref b1o), .val (.int (0 : Int32))] [(.int (8 : Int32)), (.int (0 : Int32))])) _
      refine XS.icmpNo X15.here hx rfl (hb hby d16_17) rfl (tlt (by decide)).2.1 ?_
      refine XS.aloadN X15.here hx rfl (hb hby d16_20) rfl rfl ?_
      refine st18 _ ?_
      refine XS.iloadN X18.here hx rfl (hb hby d16_24) rfl ?_
      refine X18.laload hx (j := (0 : Int32)) (v := (.long (own_K arr 0))) (by rw [e18]; exact Ar19.1) (State.isArrayOf_alike hZ.alike Ar19.2.1) Ar19.2.2 hin20 hat20 (g := (mkF m 25 #[.val (.ref a1), .val (.int (8 : Int32)), .val (.ref b1o), .val (.int (0 : Int32))] [(.int (0 : Int32)), (.ref a)])) rfl rfl (hb hby d16_25) _ ?_
      refine X18.ldc2Long hx hown (mvT hZ (hw _ (own_w 20 rfl))) (g := (mkF m 26 #[.val (.ref a1), .val (.int (8 : Int32)), .val (.ref b1o), .val (.int (0 : Int32))] [(.long (own_K arr 0))])) rfl (hb hby d16_26) _ ?_
      refine XS.lcmp X18.here hx rfl (hb hby d16_29) rfl ?_
      refine XS.ifNo X18.here hx rfl (hb hby d16_30) rfl ((if0 _ _).trans (feq (own_lcne hc30)).1) ?_
      refine XS.aloadN X18.here hx rfl (hb hby d16_33) rfl rfl ?_
      refine XS.aloadN X18.here hx rfl (hb hby d16_34) rfl rfl ?_
      refine st21 _ ?_
      refine XS.iloadN X21.here hx rfl (hb hby d16_38) rfl ?_
      refine X21.laload hx (j := (0 : Int32)) (v := (.long (own_K arr 0))) (by rw [e21]; exact Ar22.1) (State.isArrayOf_alike hZ.alike Ar22.2.1) Ar22.2.2 hin23 hat23 (g := (mkF m 39 #[.val (.ref a1), .val (.int (8 : Int32)), .val (.ref b1o), .val (.int (0 : Int32))] [(.int (0 : Int32)), (.ref a), (.ref b1o)])) rfl rfl (hb hby d16_39) _ ?_
      refine XS.aloadN X21.here hx rfl (hb hby d16_40) rfl rfl ?_
      refine st24 _ ?_
      refine XS.iloadN X24.here hx rfl (hb hby d16_44) rfl ?_
      refine XS.iconst X24.here hx rfl (hb hby d16_45) ?_
      refine XS.iadd X24.here hx rfl (hb hby d16_46) rfl ?_
      refine X24.laload hx (j := (1 : Int32)) (v := (.long (own_W arr 0))) (by rw [e24]; exact Ar25.1) (State.isArrayOf_alike hZ.alike Ar25.2.1) Ar25.2.2 hin26 hat26 (g := (mkF m 47 #[.val (.ref a1), .val (.int (8 : Int32)), .val (.ref b1o), .val (.int (0 : Int32))] [(.int (1 : Int32)), (.ref a), (.long (own_K arr 0)), (.ref b1o)])) rfl rfl (hb hby d16_47) _ ?_
      refine st27.trans ?_
      refine XS.iinc X27.here hx rfl (hb hby d16_51) rfl (l' := #[.val (.ref a1), .val (.int (8 : Int32)), .val (.ref b1o), .val (.int (2 : Int32))]) rfl ?_
      refine XS.goto X27.here hx rfl (pc0 := 54) (pc' := 11) rfl (hb hby d16_54) (by decide) (by decide) ?_
      exact kt
  obtain ⟨T13, h13, ar13, L13, X13, e13, N13, Z13, KT13, hl13, AV13, rp13, st13⟩ := tn13
  have K13 : Keep h0 h13 [a1] := K4.trans KT13 (allS (Or.inr (Nat.le_trans K1.1 gk4)) all0)
  have tn28 : ∃ (T' : State) (h' : Heap) (arr2 : List Int64) (L' : List Loc), Stand p l e ({ frames := 3, cells := 2, slots := 20, locals := 44 } : Room) s m #[(.ref a1), (.int (8 : Int32))] below meth c T' L' 2 20 ∧ T'.heap = h' ∧ Fr n0 L' ∧ n0 ≤ h'.size ∧ Keep h13 h' [sa4] ∧ arr2.length = 2 * 8 ∧ Arv Z h' sa4 sk4 .long (16 : Int32) (arr2.map Value.long) (.long (0 : Int64)) ∧ own_Rep (own_K arr2) (own_W arr2) 8 (own_hs 8) (own_Part (own_K arr) 2) (fun x => @ite _ (own_Part (own_K arr) 2 x) (Classical.propDecidable _) (mm x) 0) (own_cnt (own_K arr) 2) ∧ ∀ target, Steps p.tables e below (T'.setTop (mkF m 11 #[.val (.ref a1), .val (.int (8 : Int32)), .val (.ref b1o), .val (.int (4 : Int32))] [])) target → Steps p.tables e below (T13.setTop (mkF m 11 #[.val (.ref a1), .val (.int (8 : Int32)), .val (.ref b1o), .val (.int (2 : Int32))] [])) target := by
    have f29 := ((f6.keep KC4 (ninS ne2 nin0)).keep KT13 (ninS ne11 nin0))
    obtain ⟨T30, X30, e30, st30⟩ := getF X13 hx hZ hown (host := "") (Or.inl (hw _ (own_w 18 rfl))) Via.refl e13 f29 (g := (mkF m 13 #[.val (.ref a1), .val (.int (8 : Int32)), .val (.ref b1o), .val (.int (2 : Int32))] [(.ref a1), (.int (2 : Int32))])) rfl rfl (hb hby d16_13)
    have f31 := ((f10.keep KC4 (ninS ne3 nin0)).keep KT13 (ninS ne12 nin0))
    obtain ⟨cl32, Ar32, qk32, Sz32, Nn32, Hh32, Gg32⟩ := id (f31)
    obtain ⟨T33, X33, e33, st33⟩ := getF X30 hx hZ hown (host := "") (Or.inl (hw _ (own_w 18 rfl))) Via.refl e30 f29 (g := (mkF m 21 #[.val (.ref a1), .val (.int (8 : Int32)), .val (.ref b1o), .val (.int (2 : Int32))] [(.ref a1)])) rfl rfl (hb hby d16_21)
    obtain ⟨cl34, Ar34, qk34, Sz34, Nn34, Hh34, Gg34⟩ := id (f31)
    have hin35 : ¬ ((2 : Int32) < 0 ∨ cl34.slots.size ≤ ((2 : Int32)).toNatClampNeg) := inb_of Sz34 ⟨by decide, by decide⟩
    have hat35 : cl34.slots[((2 : Int32)).toNatClampNeg]? = some (.long (own_K arr 1)) := Has.at Hh34 hin35 (own_ld arr 2)
    by_cases hc30 : (own_K arr 1) = (-9223372036854775808 : Int64)
    · refine ⟨T33, _, ar13, _, X33, e33, N13, Z13, Keep.refl _ _, hl13, AV13, own_part_skip rp13 hc30, fun target kt => ?_⟩
      show Steps p.tables e below (T13.setTop (mkF m 11 #[.val (.ref a1), .val (.int (8 : Int32)), .val (.ref b1o), .val (.int (2 : Int32))] [])) _
      refine XS.iloadN X13.here hx rfl (hb hby d16_11) rfl ?_
      refine XS.aloadN X13.here hx rfl (hb hby d16_12) rfl rfl ?_
      refine st30 _ ?_
      refine X30.arraylength hx (by rw [e30]; exact Ar32.1) (State.isArrayOf_alike hZ.alike Ar32.2.1) (g := (mkF m 16 #[.val (.ref a1), .val (.int (8 : Int32)), .val (.ref b1o), .val (.int (2 : Int32))] [(.ref a), (.int (2 : Int32))])) rfl rfl (hb hby d16_16) _ ?_
      rw [len_of Sz32 Nn32]
      show Steps p.tables e below (T30.setTop (mkF m 17 #[.val (.ref a1), .val (.int (8 : Int32)), .val (.ref b1o), .val (.int (2 : Int32))] [(.int (8 : Int32)), (.int (2 : Int32))])) _
      refine XS.icmpNo X30.here hx rfl (hb hby d16_17) rfl (tlt (by decide)).2.1 ?_
      refine XS.aloadN X30.here hx rfl (hb hby d16_20) rfl rfl ?_
      refine st33 _ ?_
      refine XS.iloadN X33.here hx rfl (hb hby d16_24) rfl ?_
      refine X33.laload hx (j := (2 : Int32)) (v := (.long (own_K arr 1))) (by rw [e33]; exact Ar34.1) (State.isArrayOf_alike hZ.alike Ar34.2.1) Ar34.2.2 hin35 hat35 (g := (mkF m 25 #[.val (.ref a1), .val (.int (8 : Int32)), .val (.ref b1o), .val (.int (2 : Int32))] [(.int (2 : Int32)), (.ref a)])) rfl rfl (hb hby d16_25) _ ?_
      refine X33.ldc2Long hx hown (mvT hZ (hw _ (own_w 20 rfl))) (g := (mkF m 26 #[.val (.ref a1), .val (.int (8 : Int32)), .val (.ref b1o), .val (.int (2 : Int32))] [(.long (own_K arr 1))])) rfl (hb hby d16_26) _ ?_
      refine XS.lcmp X33.here hx rfl (hb hby d16_29) rfl ?_
      refine XS.ifYes X33.here hx rfl (pc0 := 30) (pc' := 51) rfl (hb hby d16_30) rfl ((if0 _ _).trans (teq (own_lceq hc30)).1) (by decide) (by decide) ?_
      refine XS.iinc X33.here hx rfl (hb hby d16_51) rfl (l' := #[.val (.ref a1), .val (.int (8 : Int32)), .val (.ref b1o), .val (.int (4 : Int32))]) rfl ?_
      refine XS.goto X33.here hx rfl (pc0 := 54) (pc' := 11) rfl (hb hby d16_54) (by decide) (by decide) ?_
      exact kt
    · obtain ⟨T36, X36, e36, st36⟩ := getF X33 hx hZ hown (host := "") (Or.inl (hw _ (own_w 18 rfl))) Via.refl e33 f29 (g := (mkF m 35 #[.val (.ref a1), .val (.int (8 : Int32)), .val (.ref b1o), .val (.int (2 : Int32))] [(.ref a1), (.ref b1o)])) rfl rfl (hb hby d16_35)
      obtain ⟨cl37, Ar37, qk37, Sz37, Nn37, Hh37, Gg37⟩ := id (f31)
      have hin38 : ¬ ((2 : Int32) < 0 ∨ cl37.slots.size ≤ ((2 : Int32)).toNatClampNeg) := inb_of Sz37 ⟨by decide, by decide⟩
      have hat38 : cl37.slots[((2 : Int32)).toNatClampNeg]? = some (.long (own_K arr 1)) := Has.at Hh37 hin38 (own_ld arr 2)
      obtain ⟨T39, X39, e39, st39⟩ := getF X36 hx hZ hown (host := "") (Or.inl (hw _ (own_w 18 rfl))) Via.refl e36 f29 (g := (mkF m 41 #[.val (.ref a1), .val (.int (8 : Int32)), .val (.ref b1o), .val (.int (2 : Int32))] [(.ref a1), (.long (own_K arr 1)), (.ref b1o)])) rfl rfl (hb hby d16_41)
      obtain ⟨cl40, Ar40, qk40, Sz40, Nn40, Hh40, Gg40⟩ := id (f31)
      have hin41 : ¬ ((3 : Int32) < 0 ∨ cl40.slots.size ≤ ((3 : Int32)).toNatClampNeg) := inb_of Sz40 ⟨by decide, by decide⟩
      have hat41 : cl40.slots[((3 : Int32)).toNatClampNeg]? = some (.long (own_W arr 1)) := Has.at Hh40 hin41 (own_ld arr 3)
      have hfr : ∃ j, j < 8 ∧ own_K (ar13) j = own_FREE := own_cnt_free (by rw [rp13.2.2.2]; have := own_cnt_le (own_K arr) 1; omega)
      have f43 := (EI4.keep KT13)
      have f44 := (FS4.keep KT13 (ninS net4 nin0))
      have f45 := (FH4.keep KT13 (ninS net4 nin0))
      obtain ⟨cq42, qq42, qq42'⟩ := f43.cell
      obtain ⟨_, _, ⟨T42, Lq42, kq42, nq42⟩, -, X42, ⟨Lc42, hQ42, lq42, yq42, zq42⟩, st42⟩ := X39.privateBack hx (y := (⟨"com/example/pricewright/pricewright/core/LongSumTable", "put", "(JJ)V"⟩ : MethodName)) hown (mvT hZ (hw _ (own_w 77 rfl))) (mvT hZ (hw _ (own_w 78 rfl))) (own_selpriv (mvT hZ (hw _ (own_w 6 rfl))) (Cond.privateMethod_at (mvP hZ (hw _ (own_w 79 rfl)) (args := #[]))) (mvT hZ (hw _ (own_w 78 rfl))) (by decide)) (Cond.privateMethod_at (mvP hZ (hw _ (own_w 79 rfl)) (args := #[]))) (mvT hZ (hw _ (own_w 80 rfl))) (by decide) (backOf (W := 0) (rmP l Z a0 hw [] b1o (own_K arr 1) (own_W arr 1) sa4 sk4 (ar13) 8 (61 : Int32) h13 n0 Z13 (Or.inr ⟨rfl, rfl⟩) f43 f44 f45 AV13 hfr hl13 net4 ga4) hZ (hw _ (own_w 80 rfl)) (hw _ (own_w 7 rfl)) (by decide) (by decide)) (g := (mkF m 48 #[.val (.ref a1), .val (.int (8 : Int32)), .val (.ref b1o), .val (.int (2 : Int32))] [(.long (own_W arr 1)), (.long (own_K arr 1)), (.ref b1o)])) rfl (by rw [hml]; rfl) (Steps.refl _) (a := b1o) (by rw [e39]; exact qq42) qq42' (argsL := [(.long (own_K arr 1)), (.long (own_W arr 1))]) (rest := []) (lenOf pd_3 rfl) rfl (by show 2 * 0 + _ ≤ _; exact Nat.le_of_eq rfl) (hb hby d16_48) (fun _ _ => ⟨rfl, e39, (by decide : 2 + 0 ≤ _), (by decide : 20 + 0 ≤ _)⟩)
      dsimp only [Pt.U, Pt.locs, Pt.cells, Pt.slots] at X42 lq42 yq42 zq42 st42 hQ42
      subst lq42 yq42 zq42
      obtain ⟨rfl, N42q, KC42, u42⟩ := hQ42
      have N42 := Fr.app N13 N42q
      have Z42 : n0 ≤ T42.heap.size := Nat.le_trans Z13 KC42.1
      obtain ⟨i42, hi42, P42, AV42⟩ := u42
      have pp := own_part_put Rp (i := 1) (by decide) hc30 rp13 hi42 P42
      refine ⟨T42, _, ((ar13.set (2 * i42) (own_K arr 1)).set (2 * i42 + 1) (own_W arr 1)), _, X42, rfl, N42, Z42, KC42, by rw [List.length_set, List.length_set]; exact hl13, AV42, by rw [own_Kins hl13 hi42, own_Wins hl13 hi42]; exact pp.2, fun target kt => ?_⟩
      refine XS.iloadN X13.here hx rfl (hb hby d16_11) rfl ?_
      refine XS.aloadN X13.here hx rfl (hb hby d16_12) rfl rfl ?_
      refine st30 _ ?_
      refine X30.arraylength hx (by rw [e30]; exact Ar32.1) (State.isArrayOf_alike hZ.alike Ar32.2.1) (g := (mkF m 16 #[.val (.ref a1), .val (.int (8 : Int32)), .val (.ref b1o), .val (.int (2 : Int32))] [(.ref a), (.int (2 : Int32))])) rfl rfl (hb hby d16_16) _ ?_
      rw [len_of Sz32 Nn32]
      show Steps p.tables e below (T30.setTop (mkF m 17 #[.val (.ref a1), .val (.int (8 : Int32)), .val (.ref b1o), .val (.int (2 : Int32))] [(.int (8 : Int32)), (.int (2 : Int32))])) _
      refine XS.icmpNo X30.here hx rfl (hb hby d16_17) rfl (tlt (by decide)).2.1 ?_
      refine XS.aloadN X30.here hx rfl (hb hby d16_20) rfl rfl ?_
      refine st33 _ ?_
      refine XS.iloadN X33.here hx rfl (hb hby d16_24) rfl ?_
      refine X33.laload hx (j := (2 : Int32)) (v := (.long (own_K arr 1))) (by rw [e33]; exact Ar34.1) (State.isArrayOf_alike hZ.alike Ar34.2.1) Ar34.2.2 hin35 hat35 (g := (mkF m 25 #[.val (.ref a1), .val (.int (8 : Int32)), .val (.ref b1o), .val (.int (2 : Int32))] [(.int (2 : Int32)), (.ref a)])) rfl rfl (hb hby d16_25) _ ?_
      refine X33.ldc2Long hx hown (mvT hZ (hw _ (own_w 20 rfl))) (g := (mkF m 26 #[.val (.ref a1), .val (.int (8 : Int32)), .val (.ref b1o), .val (.int (2 : Int32))] [(.long (own_K arr 1))])) rfl (hb hby d16_26) _ ?_
      refine XS.lcmp X33.here hx rfl (hb hby d16_29) rfl ?_
      refine XS.ifNo X33.here hx rfl (hb hby d16_30) rfl ((if0 _ _).trans (feq (own_lcne hc30)).1) ?_
      refine XS.aloadN X33.here hx rfl (hb hby d16_33) rfl rfl ?_
      refine XS.aloadN X33.here hx rfl (hb hby d16_34) rfl rfl ?_
      refine st36 _ ?_
      refine XS.iloadN X36.here hx rfl (hb hby d16_38) rfl ?_
      refine X36.laload hx (j := (2 : Int32)) (v := (.long (own_K arr 1))) (by rw [e36]; exact Ar37.1) (State.isArrayOf_alike hZ.alike Ar37.2.1) Ar37.2.2 hin38 hat38 (g := (mkF m 39 #[.val (.ref a1), .val (.int (8 : Int32)), .val (.ref b1o), .val (.int (2 : Int32))] [(.int (2 : Int32)), (.ref a), (.ref b1o)])) rfl rfl (hb hby d16_39) _ ?_
      refine XS.aloadN X36.here hx rfl (hb hby d16_40) rfl rfl ?_
      refine st39 _ ?_
      refine XS.iloadN X39.here hx rfl (hb hby d16_44) rfl ?_
      refine XS.iconst X39.here hx rfl (hb hby d16_45) ?_
      refine XS.iadd X39.here hx rfl (hb hby d16_46) rfl ?_
      refine X39.laload hx (j := (3 : Int32)) (v := (.long (own_W arr 1))) (by rw [e39]; exact Ar40.1) (State.isArrayOf_alike hZ.alike Ar40.2.1) Ar40.2.2 hin41 hat41 (g := (mkF m 47 #[.val (.ref a1), .val (.int (8 : Int32)), .val (.ref b1o), .val (.int (2 : Int32))] [(.int (3 : Int32)), (.ref a), (.long (own_K arr 1)), (.ref b1o)])) rfl rfl (hb hby d16_47) _ ?_
      refine st42.trans ?_
      refine XS.iinc X42.here hx rfl (hb hby d16_51) rfl (l' := #[.val (.ref a1), .val (.int (8 : Int32)), .val (.ref b1o), .val (.int (4 : Int32))]) rfl ?_
      refine XS.goto X42.here hx rfl (pc0 := 54) (pc' := 11) rfl (hb hby d16_54) (by decide) (by decide) ?_
      exact kt
  obtain ⟨T28, h28, ar28, L28, X28, e28, N28, Z28, KT28, hl28, AV28, rp28, st28⟩ := tn28
  have K28 : Keep h0 h28 [a1] := K13.trans KT28 (allS (Or.inr (Nat.le_trans K1.1 gk4)) all0)
  have tn46 : ∃ (T' : State) (h' : Heap) (arr2 : List Int64) (L' : List Loc), Stand p l e ({ frames := 3, cells := 2, slots := 20, locals := 44 } : Room) s m #[(.ref a1), (.int (8 : Int32))] below meth c T' L' 2 20 ∧ T'.heap = h' ∧ Fr n0 L' ∧ n0 ≤ h'.size ∧ Keep h28 h' [sa4] ∧ arr2.length = 2 * 8 ∧ Arv Z h' sa4 sk4 .long (16 : Int32) (arr2.map Value.long) (.long (0 : Int64)) ∧ own_Rep (own_K arr2) (own_W arr2) 8 (own_hs 8) (own_Part (own_K arr) 3) (fun x => @ite _ (own_Part (own_K arr) 3 x) (Classical.propDecidable _) (mm x) 0) (own_cnt (own_K arr) 3) ∧ ∀ target, Steps p.tables e below (T'.setTop (mkF m 11 #[.val (.ref a1), .val (.int (8 : Int32)), .val (.ref b1o), .val (.int (6 : Int32))] [])) target → Steps p.tables e below (T28.setTop (mkF m 11 #[.val (.ref a1), .val (.int (8 : Int32)), .val (.ref b1o), .val (.int (4 : Int32))] [])) target := by
    have f47 := (((f6.keep KC4 (ninS ne2 nin0)).keep KT13 (ninS ne11 nin0)).keep KT28 (ninS ne11 nin0))
    obtain ⟨T48, X48, e48, st48⟩ := getF X28 hx hZ hown (host := "") (Or.inl (hw _ (own_w 18 rfl))) Via.refl e28 f47 (g := (mkF m 13 #[.val (.ref a1), .val (.int (8 : Int32)), .val (.ref b1o), .val (.int (4 : Int32))] [(.ref a1), (.int (4 : Int32))])) rfl rfl (hb hby d16_13)
    have f49 := (((f10.keep KC4 (ninS ne3 nin0)).keep KT13 (ninS ne12 nin0)).keep KT28 (ninS ne12 nin0))
    obtain ⟨cl50, Ar50, qk50, Sz50, Nn50, Hh50, Gg50⟩ := id (f49)
    obtain ⟨T51, X51, e51, st51⟩ := getF X48 hx hZ hown (host := "") (Or.inl (hw _ (own_w 18 rfl))) Via.refl e48 f47 (g := (mkF m 21 #[.val (.ref a1), .val (.int (8 : Int32)), .val (.ref b1o), .val (.int (4 : Int32))] [(.ref a1)])) rfl rfl (hb hby d16_21)
    obtain ⟨cl52, Ar52, qk52, Sz52, Nn52, Hh52, Gg52⟩ := id (f49)
    have hin53 : ¬ ((4 : Int32) < 0 ∨ cl52.slots.size ≤ ((4 : Int32)).toNatClampNeg) := inb_of Sz52 ⟨by decide, by decide⟩
    have hat53 : cl52.slots[((4 : Int32)).toNatClampNeg]? = some (.long (own_K arr 2)) := Has.at Hh52 hin53 (own_ld arr 4)
    by_cases hc30 : (own_K arr 2) = (-9223372036854775808 : Int64)
    · refine ⟨T51, _, ar28, _, X51, e51, N28, Z28, Keep.refl _ _, hl28, AV28, own_part_skip rp28 hc30, fun target kt => ?_⟩
      show Steps p.tables e below (T28.setTop (mkF m 11 #[.val (.ref a1), .val (.int (8 : Int32)), .val (.ref b1o), .val (.int (4 : Int32))] [])) _
      refine XS.iloadN X28.here hx rfl (hb hby d16_11) rfl ?_
      refine XS.aloadN X28.here hx rfl (hb hby d16_12) rfl rfl ?_
      refine st48 _ ?_
      refine X48.arraylength hx (by rw [e48]; exact Ar50.1) (State.isArrayOf_alike hZ.alike Ar50.2.1) (g := (mkF m 16 #[.val (.ref a1), .val (.int (8 : Int32)), .val (.ref b1o), .val (.int (4 : Int32))] [(.ref a), (.int (4 : Int32))])) rfl rfl (hb hby d16_16) _ ?_
      rw [len_of Sz50 Nn50]
      show Steps p.tables e below (T48.setTop (mkF m 17 #[.val (.ref a1), .val (.int (8 : Int32)), .val (.ref b1o), .val (.int (4 : Int32))] [(.int (8 : Int32)), (.int (4 : Int32))])) _
      refine XS.icmpNo X48.here hx rfl (hb hby d16_17) rfl (tlt (by decide)).2.1 ?_
      refine XS.aloadN X48.here hx rfl (hb hby d16_20) rfl rfl ?_
      refine st51 _ ?_
      refine XS.iloadN X51.here hx rfl (hb hby d16_24) rfl ?_
      refine X51.laload hx (j := (4 : Int32)) (v := (.long (own_K arr 2))) (by rw [e51]; exact Ar52.1) (State.isArrayOf_alike hZ.alike Ar52.2.1) Ar52.2.2 hin53 hat53 (g := (mkF m 25 #[.val (.ref a1), .val (.int (8 : Int32)), .val (.ref b1o), .val (.int (4 : Int32))] [(.int (4 : Int32)), (.ref a)])) rfl rfl (hb hby d16_25) _ ?_
      refine X51.ldc2Long hx hown (mvT hZ (hw _ (own_w 20 rfl))) (g := (mkF m 26 #[.val (.ref a1), .val (.int (8 : Int32)), .val (.ref b1o), .val (.int (4 : Int32))] [(.long (own_K arr 2))])) rfl (hb hby d16_26) _ ?_
      refine XS.lcmp X51.here hx rfl (hb hby d16_29) rfl ?_
      refine XS.ifYes X51.here hx rfl (pc0 := 30) (pc' := 51) rfl (hb hby d16_30) rfl ((if0 _ _).trans (teq (own_lceq hc30)).1) (by decide) (by decide) ?_
      refine XS.iinc X51.here hx rfl (hb hby d16_51) rfl (l' := #[.val (.ref a1), .val (.int (8 : Int32)), .val (.ref b1o), .val (.int (6 : Int32))]) rfl ?_
      refine XS.goto X51.here hx rfl (pc0 := 54) (pc' := 11) rfl (hb hby d16_54) (by decide) (by decide) ?_
      exact kt
    · obtain ⟨T54, X54, e54, st54⟩ := getF X51 hx hZ hown (host := "") (Or.inl (hw _ (own_w 18 rfl))) Via.refl e51 f47 (g := (mkF m 35 #[.val (.ref a1), .val (.int (8 : Int32)), .val (.ref b1o), .val (.int (4 : Int32))] [(.ref a1), (.ref b1o)])) rfl rfl (hb hby d16_35)
      obtain ⟨cl55, Ar55, qk55, Sz55, Nn55, Hh55, Gg55⟩ := id (f49)
      have hin56 : ¬ ((4 : Int32) < 0 ∨ cl55.slots.size ≤ ((4 : Int32)).toNatClampNeg) := inb_of Sz55 ⟨by decide, by decide⟩
      have hat56 : cl55.slots[((4 : Int32)).toNatClampNeg]? = some (.long (own_K arr 2)) := Has.at Hh55 hin56 (own_ld arr 4)
      obtain ⟨T57, X57, e57, st57⟩ := getF X54 hx hZ hown (host := "") (Or.inl (hw _ (own_w 18 rfl))) Via.refl e54 f47 (g := (mkF m 41 #[.val (.ref a1), .val (.int (8 : Int32)), .val (.ref b1o), .val (.int (4 : Int32))] [(.ref a1), (.long (own_K arr 2)), (.ref b1o)])) rfl rfl (hb hby d16_41)
      obtain ⟨cl58, Ar58, qk58, Sz58, Nn58, Hh58, Gg58⟩ := id (f49)
      have hin59 : ¬ ((5 : Int32) < 0 ∨ cl58.slots.size ≤ ((5 : Int32)).toNatClampNeg) := inb_of Sz58 ⟨by decide, by decide⟩
      have hat59 : cl58.slots[((5 : Int32)).toNatClampNeg]? = some (.long (own_W arr 2)) := Has.at Hh58 hin59 (own_ld arr 5)
      have hfr : ∃ j, j < 8 ∧ own_K (ar28) j = own_FREE := own_cnt_free (by rw [rp28.2.2.2]; have := own_cnt_le (own_K arr) 2; omega)
      have f61 := ((EI4.keep KT13).keep KT28)
      have f62 := ((FS4.keep KT13 (ninS net4 nin0)).keep KT28 (ninS net4 nin0))
      have f63 := ((FH4.keep KT13 (ninS net4 nin0)).keep KT28 (ninS net4 nin0))
      obtain ⟨cq60, qq60, qq60'⟩ := f61.cell
      obtain ⟨_, _, ⟨T60, Lq60, kq60, nq60⟩, -, X60, ⟨Lc60, hQ60, lq60, yq60, zq60⟩, st60⟩ := X57.privateBack hx (y := (⟨"com/example/pricewright/pricewright/core/LongSumTable", "put", "(JJ)V"⟩ : MethodName)) hown (mvT hZ (hw _ (own_w 77 rfl))) (mvT hZ (hw _ (own_w 78 rfl))) (own_selpriv (mvT hZ (hw _ (own_w 6 rfl))) (Cond.privateMethod_at (mvP hZ (hw _ (own_w 79 rfl)) (args := #[]))) (mvT hZ (hw _ (own_w 78 rfl))) (by decide)) (Cond.privateMethod_at (mvP hZ (hw _ (own_w 79 rfl)) (args := #[]))) (mvT hZ (hw _ (own_w 80 rfl))) (by decide) (backOf (W := 0) (rmP l Z a0 hw [] b1o (own_K arr 2) (own_W arr 2) sa4 sk4 (ar28) 8 (61 : Int32) h28 n0 Z28 (Or.inr ⟨rfl, rfl⟩) f61 f62 f63 AV28 hfr hl28 net4 ga4) hZ (hw _ (own_w 80 rfl)) (hw _ (own_w 7 rfl)) (by decide) (by decide)) (g := (mkF m 48 #[.val (.ref a1), .val (.int (8 : Int32)), .val (.ref b1o), .val (.int (4 : Int32))] [(.long (own_W arr 2)), (.long (own_K arr 2)), (.ref b1o)])) rfl (by rw [hml]; rfl) (Steps.refl _) (a := b1o) (by rw [e57]; exact qq60) qq60' (argsL := [(.long (own_K arr 2)), (.long (own_W arr 2))]) (rest := []) (lenOf pd_3 rfl) rfl (by show 2 * 0 + _ ≤ _; exact Nat.le_of_eq rfl) (hb hby d16_48) (fun _ _ => ⟨rfl, e57, (by decide : 2 + 0 ≤ _), (by decide : 20 + 0 ≤ _)⟩)
      dsimp only [Pt.U, Pt.locs, Pt.cells, Pt.slots] at X60 lq60 yq60 zq60 st60 hQ60
      subst lq60 yq60 zq60
      obtain ⟨rfl, N60q, KC60, u60⟩ := hQ60
      have N60 := Fr.app N28 N60q
      have Z60 : n0 ≤ T60.heap.size := Nat.le_trans Z28 KC60.1
      obtain ⟨i60, hi60, P60, AV60⟩ := u60
      have pp := own_part_put Rp (i := 2) (by decide) hc30 rp28 hi60 P60
      refine ⟨T60, _, ((ar28.set (2 * i60) (own_K arr 2)).set (2 * i60 + 1) (own_W arr 2)), _, X60, rfl, N60, Z60, KC60, by rw [List.length_set, List.length_set]; exact hl28, AV60, by rw [own_Kins hl28 hi60, own_Wins hl28 hi60]; exact pp.2, fun target kt => ?_⟩
      refine XS.iloadN X28.here hx rfl (hb hby d16_11) rfl ?_
      refine XS.aloadN X28.here hx rfl (hb hby d16_12) rfl rfl ?_
      refine st48 _ ?_
      refine X48.arraylength hx (by rw [e48]; exact Ar50.1) (State.isArrayOf_alike hZ.alike Ar50.2.1) (g := (mkF m 16 #[.val (.ref a1), .val (.int (8 : Int32)), .val (.ref b1o), .val (.int (4 : Int32))] [(.ref a), (.int (4 : Int32))])) rfl rfl (hb hby d16_16) _ ?_
      rw [len_of Sz50 Nn50]
      show Steps p.tables e below (T48.setTop (mkF m 17 #[.val (.ref a1), .val (.int (8 : Int32)), .val (.ref b1o), .val (.int (4 : Int32))] [(.int (8 : Int32)), (.int (4 : Int32))])) _
      refine XS.icmpNo X48.here hx rfl (hb hby d16_17) rfl (tlt (by decide)).2.1 ?_
      refine XS.aloadN X48.here hx rfl (hb hby d16_20) rfl rfl ?_
      refine st51 _ ?_
      refine XS.iloadN X51.here hx rfl (hb hby d16_24) rfl ?_
      refine X51.laload hx (j := (4 : Int32)) (v := (.long (own_K arr 2))) (by rw [e51]; exact Ar52.1) (State.isArrayOf_alike hZ.alike Ar52.2.1) Ar52.2.2 hin53 hat53 (g := (mkF m 25 #[.val (.ref a1), .val (.int (8 : Int32)), .val (.ref b1o), .val (.int (4 : Int32))] [(.int (4 : Int32)), (.ref a)])) rfl rfl (hb hby d16_25) _ ?_
      refine X51.ldc2Long hx hown (mvT hZ (hw _ (own_w 20 rfl))) (g := (mkF m 26 #[.val (.ref a1), .val (.int (8 : Int32)), .val (.ref b1o), .val (.int (4 : Int32))] [(.long (own_K arr 2))])) rfl (hb hby d16_26) _ ?_
      refine XS.lcmp X51.here hx rfl (hb hby d16_29) rfl ?_
      refine XS.ifNo X51.here hx rfl (hb hby d16_30) rfl ((if0 _ _).trans (feq (own_lcne hc30)).1) ?_
      refine XS.aloadN X51.here hx rfl (hb hby d16_33) rfl rfl ?_
      refine XS.aloadN X51.here hx rfl (hb hby d16_34) rfl rfl ?_
      refine st54 _ ?_
      refine XS.iloadN X54.here hx rfl (hb hby d16_38) rfl ?_
      refine X54.laload hx (j := (4 : Int32)) (v := (.long (own_K arr 2))) (by rw [e54]; exact Ar55.1) (State.isArrayOf_alike hZ.alike Ar55.2.1) Ar55.2.2 hin56 hat56 (g := (mkF m 39 #[.val (.ref a1), .val (.int (8 : Int32)), .val (.ref b1o), .val (.int (4 : Int32))] [(.int (4 : Int32)), (.ref a), (.ref b1o)])) rfl rfl (hb hby d16_39) _ ?_
      refine XS.aloadN X54.here hx rfl (hb hby d16_40) rfl rfl ?_
      refine st57 _ ?_
      refine XS.iloadN X57.here hx rfl (hb hby d16_44) rfl ?_
      refine XS.iconst X57.here hx rfl (hb hby d16_45) ?_
      refine XS.iadd X57.here hx rfl (hb hby d16_46) rfl ?_
      refine X57.laload hx (j := (5 : Int32)) (v := (.long (own_W arr 2))) (by rw [e57]; exact Ar58.1) (State.isArrayOf_alike hZ.alike Ar58.2.1) Ar58.2.2 hin59 hat59 (g := (mkF m 47 #[.val (.ref a1), .val (.int (8 : Int32)), .val (.ref b1o), .val (.int (4 : Int32))] [(.int (5 : Int32)), (.ref a), (.long (own_K arr 2)), (.ref b1o)])) rfl rfl (hb hby d16_47) _ ?_
      refine st60.trans ?_
      refine XS.iinc X60.here hx rfl (hb hby d16_51) rfl (l' := #[.val (.ref a1), .val (.int (8 : Int32)), .val (.ref b1o), .val (.int (6 : Int32))]) rfl ?_
      refine XS.goto X60.here hx rfl (pc0 := 54) (pc' := 11) rfl (hb hby d16_54) (by decide) (by decide) ?_
      exact kt
  obtain ⟨T46, h46, ar46, L46, X46, e46, N46, Z46, KT46, hl46, AV46, rp46, st46⟩ := tn46
  have K46 : Keep h0 h46 [a1] := K28.trans KT46 (allS (Or.inr (Nat.le_trans K1.1 gk4)) all0)
  have tn64 : ∃ (T' : State) (h' : Heap) (arr2 : List Int64) (L' : List Loc), Stand p l e ({ frames := 3, cells := 2, slots := 20, locals := 44 } : Room) s m #[(.ref a1), (.int (8 : Int32))] below meth c T' L' 2 20 ∧ T'.heap = h' ∧ Fr n0 L' ∧ n0 ≤ h'.size ∧ Keep h46 h' [sa4] ∧ arr2.length = 2 * 8 ∧ Arv Z h' sa4 sk4 .long (16 : Int32) (arr2.map Value.long) (.long (0 : Int64)) ∧ own_Rep (own_K arr2) (own_W arr2) 8 (own_hs 8) (own_Part (own_K arr) 4) (fun x => @ite _ (own_Part (own_K arr) 4 x) (Classical.propDecidable _) (mm x) 0) (own_cnt (own_K arr) 4) ∧ ∀ target, Steps p.tables e below (T'.setTop (mkF m 11 #[.val (.ref a1), .val (.int (8 : Int32)), .val (.ref b1o), .val (.int (8 : Int32))] [])) target → Steps p.tables e below (T46.setTop (mkF m 11 #[.val (.ref a1), .val (.int (8 : Int32)), .val (.ref b1o), .val (.int (6 : Int32))] [])) target := by
    have f65 := ((((f6.keep KC4 (ninS ne2 nin0)).keep KT13 (ninS ne11 nin0)).keep KT28 (ninS ne11 nin0)).keep KT46 (ninS ne11 nin0))
    obtain ⟨T66, X66, e66, st66⟩ := getF X46 hx hZ hown (host := "") (Or.inl (hw _ (own_w 18 rfl))) Via.refl e46 f65 (g := (mkF m 13 #[.val (.ref a1), .val (.int (8 : Int32)), .val (.ref b1o), .val (.int (6 : Int32))] [(.ref a1), (.int (6 : Int32))])) rfl rfl (hb hby d16_13)
    have f67 := ((((f10.keep KC4 (ninS ne3 nin0)).keep KT13 (ninS ne12 nin0)).keep KT28 (ninS ne12 nin0)).keep KT46 (ninS ne12 nin0))
    obtain ⟨cl68, Ar68, qk68, Sz68, Nn68, Hh68, Gg68⟩ := id (f67)
    obtain ⟨T69, X69, e69, st69⟩ := getF X66 hx hZ hown (host := "") (Or.inl (hw _ (own_w 18 rfl))) Via.refl e66 f65 (g := (mkF m 21 #[.val (.ref a1), .val (.int (8 : Int32)), .val (.ref b1o), .val (.int (6 : Int32))] [(.ref a1)])) rfl rfl (hb hby d16_21)
    obtain ⟨cl70, Ar70, qk70, Sz70, Nn70, Hh70, Gg70⟩ := id (f67)
    have hin71 : ¬ ((6 : Int32) < 0 ∨ cl70.slots.size ≤ ((6 : Int32)).toNatClampNeg) := inb_of Sz70 ⟨by decide, by decide⟩
    have hat71 : cl70.slots[((6 : Int32)).toNatClampNeg]? = some (.long (own_K arr 3)) := Has.at Hh70 hin71 (own_ld arr 6)
    by_cases hc30 : (own_K arr 3) = (-9223372036854775808 : Int64)
    · refine ⟨T69, _, ar46, _, X69, e69, N46, Z46, Keep.refl _ _, hl46, AV46, own_part_skip rp46 hc30, fun target kt => ?_⟩
      show Steps p.tables e below (T46.setTop (mkF m 11 #[.val (.ref a1), .val (.int (8 : Int32)), .val (.ref b1o), .val (.int (6 : Int32))] [])) _
      refine XS.iloadN X46.here hx rfl (hb hby d16_11) rfl ?_
      refine XS.aloadN X46.here hx rfl (hb hby d16_12) rfl rfl ?_
      refine st66 _ ?_
      refine X66.arraylength hx (by rw [e66]; exact Ar68.1) (State.isArrayOf_alike hZ.alike Ar68.2.1) (g := (mkF m 16 #[.val (.ref a1), .val (.int (8 : Int32)), .val (.ref b1o), .val (.int (6 : Int32))] [(.ref a), (.int (6 : Int32))])) rfl rfl (hb hby d16_16) _ ?_
      rw [len_of Sz68 Nn68]
      show Steps p.tables e below (T66.setTop (mkF m 17 #[.val (.ref a1), .val (.int (8 : Int32)), .val (.ref b1o), .val (.int (6 : Int32))] [(.int (8 : Int32)), (.int (6 : Int32))])) _
      refine XS.icmpNo X66.here hx rfl (hb hby d16_17) rfl (tlt (by decide)).2.1 ?_
      refine XS.aloadN X66.here hx rfl (hb hby d16_20) rfl rfl ?_
      refine st69 _ ?_
      refine XS.iloadN X69.here hx rfl (hb hby d16_24) rfl ?_
      refine X69.laload hx (j := (6 : Int32)) (v := (.long (own_K arr 3))) (by rw [e69]; exact Ar70.1) (State.isArrayOf_alike hZ.alike Ar70.2.1) Ar70.2.2 hin71 hat71 (g := (mkF m 25 #[.val (.ref a1), .val (.int (8 : Int32)), .val (.ref b1o), .val (.int (6 : Int32))] [(.int (6 : Int32)), (.ref a)])) rfl rfl (hb hby d16_25) _ ?_
      refine X69.ldc2Long hx hown (mvT hZ (hw _ (own_w 20 rfl))) (g := (mkF m 26 #[.val (.ref a1), .val (.int (8 : Int32)), .val (.ref b1o), .val (.int (6 : Int32))] [(.long (own_K arr 3))])) rfl (hb hby d16_26) _ ?_
      refine XS.lcmp X69.here hx rfl (hb hby d16_29) rfl ?_
      refine XS.ifYes X69.here hx rfl (pc0 := 30) (pc' := 51) rfl (hb hby d16_30) rfl ((if0 _ _).trans (teq (own_lceq hc30)).1) (by decide) (by decide) ?_
      refine XS.iinc X69.here hx rfl (hb hby d16_51) rfl (l' := #[.val (.ref a1), .val (.int (8 : Int32)), .val (.ref b1o), .val (.int (8 : Int32))]) rfl ?_
      refine XS.goto X69.here hx rfl (pc0 := 54) (pc' := 11) rfl (hb hby d16_54) (by decide) (by decide) ?_
      exact kt
    · obtain ⟨T72, X72, e72, st72⟩ := getF X69 hx hZ hown (host := "") (Or.inl (hw _ (own_w 18 rfl))) Via.refl e69 f65 (g := (mkF m 35 #[.val (.ref a1), .val (.int (8 : Int32)), .val (.ref b1o), .val (.int (6 : Int32))] [(.ref a1), (.ref b1o)])) rfl rfl (hb hby d16_35)
      obtain ⟨cl73, Ar73, qk73, Sz73, Nn73, Hh73, Gg73⟩ := id (f67)
      have hin74 : ¬ ((6 : Int32) < 0 ∨ cl73.slots.size ≤ ((6 : Int32)).toNatClampNeg) := inb_of Sz73 ⟨by decide, by decide⟩
      have hat74 : cl73.slots[((6 : Int32)).toNatClampNeg]? = some (.long (own_K arr 3)) := Has.at Hh73 hin74 (own_ld arr 6)
      obtain ⟨T75, X75, e75, st75⟩ := getF X72 hx hZ hown (host := "") (Or.inl (hw _ (own_w 18 rfl))) Via.refl e72 f65 (g := (mkF m 41 #[.val (.ref a1), .val (.int (8 : Int32)), .val (.ref b1o), .val (.int (6 : Int32))] [(.ref a1), (.long (own_K arr 3)), (.ref b1o)])) rfl rfl (hb hby d16_41)
      obtain ⟨cl76, Ar76, qk76, Sz76, Nn76, Hh76, Gg76⟩ := id (f67)
      have hin77 : ¬ ((7 : Int32) < 0 ∨ cl76.slots.size ≤ ((7 : Int32)).toNatClampNeg) := inb_of Sz76 ⟨by decide, by decide⟩
      have hat77 : cl76.slots[((7 : Int32)).toNatClampNeg]? = some (.long (own_W arr 3)) := Has.at Hh76 hin77 (own_ld arr 7)
      have hfr : ∃ j, j < 8 ∧ own_K (ar46) j = own_FREE := own_cnt_free (by rw [rp46.2.2.2]; have := own_cnt_le (own_K arr) 3; omega)
      have f79 := (((EI4.keep KT13).keep KT28).keep KT46)
      have f80 := (((FS4.keep KT13 (ninS net4 nin0)).keep KT28 (ninS net4 nin0)).keep KT46 (ninS net4 nin0))
      have f81 := (((FH4.keep KT13 (ninS net4 nin0)).keep KT28 (ninS net4 nin0)).keep KT46 (ninS net4 nin0))
      obtain ⟨cq78, qq78, qq78'⟩ := f79.cell
      obtain ⟨_, _, ⟨T78, Lq78, kq78, nq78⟩, -, X78, ⟨Lc78, hQ78, lq78, yq78, zq78⟩, st78⟩ := X75.privateBack hx (y := (⟨"com/example/pricewright/pricewright/core/LongSumTable", "put", "(JJ)V"⟩ : MethodName)) hown (mvT hZ (hw _ (own_w 77 rfl))) (mvT hZ (hw _ (own_w 78 rfl))) (own_selpriv (mvT hZ (hw _ (own_w 6 rfl))) (Cond.privateMethod_at (mvP hZ (hw _ (own_w 79 rfl)) (args := #[]))) (mvT hZ (hw _ (own_w 78 rfl))) (by decide)) (Cond.privateMethod_at (mvP hZ (hw _ (own_w 79 rfl)) (args := #[]))) (mvT hZ (hw _ (own_w 80 rfl))) (by decide) (backOf (W := 0) (rmP l Z a0 hw [] b1o (own_K arr 3) (own_W arr 3) sa4 sk4 (ar46) 8 (61 : Int32) h46 n0 Z46 (Or.inr ⟨rfl, rfl⟩) f79 f80 f81 AV46 hfr hl46 net4 ga4) hZ (hw _ (own_w 80 rfl)) (hw _ (own_w 7 rfl)) (by decide) (by decide)) (g := (mkF m 48 #[.val (.ref a1), .val (.int (8 : Int32)), .val (.ref b1o), .val (.int (6 : Int32))] [(.long (own_W arr 3)), (.long (own_K arr 3)), (.ref b1o)])) rfl (by rw [hml]; rfl) (Steps.refl _) (a := b1o) (by rw [e75]; exact qq78) qq78' (argsL := [(.long (own_K arr 3)), (.long (own_W arr 3))]) (rest := []) (lenOf pd_3 rfl) rfl (by show 2 * 0 + _ ≤ _; exact Nat.le_of_eq rfl) (hb hby d16_48) (fun _ _ => ⟨rfl, e75, (by decide : 2 + 0 ≤ _), (by decide : 20 + 0 ≤ _)⟩)
      dsimp only [Pt.U, Pt.locs, Pt.cells, Pt.slots] at X78 lq78 yq78 zq78 st78 hQ78
      subst lq78 yq78 zq78
      obtain ⟨rfl, N78q, KC78, u78⟩ := hQ78
      have N78 := Fr.app N46 N78q
      have Z78 : n0 ≤ T78.heap.size := Nat.le_trans Z46 KC78.1
      obtain ⟨i78, hi78, P78, AV78⟩ := u78
      have pp := own_part_put Rp (i := 3) (by decide) hc30 rp46 hi78 P78
      refine ⟨T78, _, ((ar46.set (2 * i78) (own_K arr 3)).set (2 * i78 + 1) (own_W arr 3)), _, X78, rfl, N78, Z78, KC78, by rw [List.length_set, List.length_set]; exact hl46, AV78, by rw [own_Kins hl46 hi78, own_Wins hl46 hi78]; exact pp.2, fun target kt => ?_⟩
      refine XS.iloadN X46.here hx rfl (hb hby d16_11) rfl ?_
      refine XS.aloadN X46.here hx rfl (hb hby d16_12) rfl rfl ?_
      refine st66 _ ?_
      refine X66.arraylength hx (by rw [e66]; exact Ar68.1) (State.isArrayOf_alike hZ.alike Ar68.2.1) (g := (mkF m 16 #[.val (.ref a1), .val (.int (8 : Int32)), .val (.ref b1o), .val (.int (6 : Int32))] [(.ref a), (.int (6 : Int32))])) rfl rfl (hb hby d16_16) _ ?_
      rw [len_of Sz68 Nn68]
      show Steps p.tables e below (T66.setTop (mkF m 17 #[.val (.ref a1), .val (.int (8 : Int32)), .val (.ref b1o), .val (.int (6 : Int32))] [(.int (8 : Int32)), (.int (6 : Int32))])) _
      refine XS.icmpNo X66.here hx rfl (hb hby d16_17) rfl (tlt (by decide)).2.1 ?_
      refine XS.aloadN X66.here hx rfl (hb hby d16_20) rfl rfl ?_
      refine st69 _ ?_
      refine XS.iloadN X69.here hx rfl (hb hby d16_24) rfl ?_
      refine X69.laload hx (j := (6 : Int32)) (v := (.long (own_K arr 3))) (by rw [e69]; exact Ar70.1) (State.isArrayOf_alike hZ.alike Ar70.2.1) Ar70.2.2 hin71 hat71 (g := (mkF m 25 #[.val (.ref a1), .val (.int (8 : Int32)), .val (.ref b1o), .val (.int (6 : Int32))] [(.int (6 : Int32)), (.ref a)])) rfl rfl (hb hby d16_25) _ ?_
      refine X69.ldc2Long hx hown (mvT hZ (hw _ (own_w 20 rfl))) (g := (mkF m 26 #[.val (.ref a1), .val (.int (8 : Int32)), .val (.ref b1o), .val (.int (6 : Int32))] [(.long (own_K arr 3))])) rfl (hb hby d16_26) _ ?_
      refine XS.lcmp X69.here hx rfl (hb hby d16_29) rfl ?_
      refine XS.ifNo X69.here hx rfl (hb hby d16_30) rfl ((if0 _ _).trans (feq (own_lcne hc30)).1) ?_
      refine XS.aloadN X69.here hx rfl (hb hby d16_33) rfl rfl ?_
      refine XS.aloadN X69.here hx rfl (hb hby d16_34) rfl rfl ?_
      refine st72 _ ?_
      refine XS.iloadN X72.here hx rfl (hb hby d16_38) rfl ?_
      refine X72.laload hx (j := (6 : Int32)) (v := (.long (own_K arr 3))) (by rw [e72]; exact Ar73.1) (State.isArrayOf_alike hZ.alike Ar73.2.1) Ar73.2.2 hin74 hat74 (g := (mkF m 39 #[.val (.ref a1), .val (.int (8 : Int32)), .val (.ref b1o), .val (.int (6 : Int32))] [(.int (6 : Int32)), (.ref a), (.ref b1o)])) rfl rfl (hb hby d16_39) _ ?_
      refine XS.aloadN X72.here hx rfl (hb hby d16_40) rfl rfl ?_
      refine st75 _ ?_
      refine XS.iloadN X75.here hx rfl (hb hby d16_44) rfl ?_
      refine XS.iconst X75.here hx rfl (hb hby d16_45) ?_
      refine XS.iadd X75.here hx rfl (hb hby d16_46) rfl ?_
      refine X75.laload hx (j := (7 : Int32)) (v := (.long (own_W arr 3))) (by rw [e75]; exact Ar76.1) (State.isArrayOf_alike hZ.alike Ar76.2.1) Ar76.2.2 hin77 hat77 (g := (mkF m 47 #[.val (.ref a1), .val (.int (8 : Int32)), .val (.ref b1o), .val (.int (6 : Int32))] [(.int (7 : Int32)), (.ref a), (.long (own_K arr 3)), (.ref b1o)])) rfl rfl (hb hby d16_47) _ ?_
      refine st78.trans ?_
      refine XS.iinc X78.here hx rfl (hb hby d16_51) rfl (l' := #[.val (.ref a1), .val (.int (8 : Int32)), .val (.ref b1o), .val (.int (8 : Int32))]) rfl ?_
      refine XS.goto X78.here hx rfl (pc0 := 54) (pc' := 11) rfl (hb hby d16_54) (by decide) (by decide) ?_
      exact kt
  obtain ⟨T64, h64, ar64, L64, X64, e64, N64, Z64, KT64, hl64, AV64, rp64, st64⟩ := tn64
  have K64 : Keep h0 h64 [a1] := K46.trans KT64 (allS (Or.inr (Nat.le_trans K1.1 gk4)) all0)
  have f82 := (((((f6.keep KC4 (ninS ne2 nin0)).keep KT13 (ninS ne11 nin0)).keep KT28 (ninS ne11 nin0)).keep KT46 (ninS ne11 nin0)).keep KT64 (ninS ne11 nin0))
  obtain ⟨T83, X83, e83, st83⟩ := getF X64 hx hZ hown (host := "") (Or.inl (hw _ (own_w 18 rfl))) Via.refl e64 f82 (g := (mkF m 13 #[.val (.ref a1), .val (.int (8 : Int32)), .val (.ref b1o), .val (.int (8 : Int32))] [(.ref a1), (.int (8 : Int32))])) rfl rfl (hb hby d16_13)
  have f84 := (((((f10.keep KC4 (ninS ne3 nin0)).keep KT13 (ninS ne12 nin0)).keep KT28 (ninS ne12 nin0)).keep KT46 (ninS ne12 nin0)).keep KT64 (ninS ne12 nin0))
  obtain ⟨cl85, Ar85, qk85, Sz85, Nn85, Hh85, Gg85⟩ := id (f84)
  have f86 := ((((FS4.keep KT13 (ninS net4 nin0)).keep KT28 (ninS net4 nin0)).keep KT46 (ninS net4 nin0)).keep KT64 (ninS net4 nin0))
  obtain ⟨T87, X87, e87, st87⟩ := getF X83 hx hZ hown (host := "") (Or.inl (hw _ (own_w 18 rfl))) Via.refl e83 f86 (g := (mkF m 59 #[.val (.ref a1), .val (.int (8 : Int32)), .val (.ref b1o), .val (.int (8 : Int32))] [(.ref b1o), (.ref a1)])) rfl rfl (hb hby d16_59)
  have f88 := (((((f5.keep KC4).keep KT13).keep KT28).keep KT46).keep KT64)
  obtain ⟨T89, h89, X89, e89, W89, st89⟩ := putF X87 hx hZ hown (host := "") (Or.inl (hw _ (own_w 18 rfl))) Via.refl e87 f82 f88 (Or.inl (hw _ (own_w 19 rfl))) (hw _ (own_w 6 rfl)) (ty := (.array .long)) (by decide) rfl rfl (g := (mkF m 62 #[.val (.ref a1), .val (.int (8 : Int32)), .val (.ref b1o), .val (.int (8 : Int32))] [(.ref sa4), (.ref a1)])) rfl rfl (hb hby d16_62)
  have N89 := Fr.snoc X89 N64 ga1
  have Z89 : n0 ≤ h89.size := by rw [W89.size]; exact Z64
  have K89 : Keep h0 h89 [a1] := K64.wr W89 (Or.inl (own_w 0 rfl))
  have Fw89 := f82.same W89
  have f90 := (((((FH4.keep KT13 (ninS net4 nin0)).keep KT28 (ninS net4 nin0)).keep KT46 (ninS net4 nin0)).keep KT64 (ninS net4 nin0)).other W89 (Or.inl (Ne.symm ne2)))
  obtain ⟨T91, X91, e91, st91⟩ := getF X89 hx hZ hown (host := "") (Or.inl (hw _ (own_w 30 rfl))) Via.refl e89 f90 (g := (mkF m 67 #[.val (.ref a1), .val (.int (8 : Int32)), .val (.ref b1o), .val (.int (8 : Int32))] [(.ref b1o), (.ref a1)])) rfl rfl (hb hby d16_67)
  have f92 := (f88.wr W89)
  have f93 := ((((((f7.keep KC4 (ninS ne2 nin0)).keep KT13 (ninS ne11 nin0)).keep KT28 (ninS ne11 nin0)).keep KT46 (ninS ne11 nin0)).keep KT64 (ninS ne11 nin0)).other W89 (Or.inr (slot_ne (Or.inl (hw _ (own_w 31 rfl))) (Or.inl (hw _ (own_w 19 rfl))) (by decide) (t := .int) (t' := (.array .long)) (by decide) (by decide))))
  obtain ⟨T94, h94, X94, e94, W94, st94⟩ := putF X91 hx hZ hown (host := "") (Or.inl (hw _ (own_w 30 rfl))) Via.refl e91 f93 f92 (Or.inl (hw _ (own_w 31 rfl))) (hw _ (own_w 6 rfl)) (ty := .int) (by decide) rfl rfl (g := (mkF m 70 #[.val (.ref a1), .val (.int (8 : Int32)), .val (.ref b1o), .val (.int (8 : Int32))] [(.int (61 : Int32)), (.ref a1)])) rfl rfl (hb hby d16_70)
  have N94 := Fr.snoc X94 N89 ga1
  have Z94 : n0 ≤ h94.size := by rw [W94.size]; exact Z89
  have K94 : Keep h0 h94 [a1] := K89.wr W94 (Or.inl (own_w 0 rfl))
  have Fw94 := f93.same W94
  obtain ⟨fs, hr, hrun, hended, hW, hsame⟩ := X94.leave (v := none) (fun _ => rfl) (BodyLoose.notSynchronized Bd)
  refine ⟨_, _, pre0 _ ?_, hrun, hended, _, _, rfl, ?_, ⟨_, rfl⟩, hW, hsame.mono (by decide) (by decide)⟩
  · show Steps p.tables e below (s₁.setTop (mkF m 0 #[.val (.ref a1), .val (.int (8 : Int32)), .unset, .unset] [])) _
    refine st1 _ ?_
    refine XS.dup X1.here hx rfl (hb hby d16_3) rfl rfl ?_
    refine XS.iloadN X1.here hx rfl (hb hby d16_4) rfl ?_
    refine st4.trans ?_
    refine XS.astoreN X4.here hx rfl (hb hby d16_8) rfl rfl (l' := #[.val (.ref a1), .val (.int (8 : Int32)), .val (.ref b1o), .unset]) rfl ?_
    refine XS.iconst X4.here hx rfl (hb hby d16_9) ?_
    refine XS.istoreN X4.here hx rfl (hb hby d16_10) rfl (l' := #[.val (.ref a1), .val (.int (8 : Int32)), .val (.ref b1o), .val (.int (0 : Int32))]) rfl ?_
    refine st13 _ ?_
    refine st28 _ ?_
    refine st46 _ ?_
    refine st64 _ ?_
    refine XS.iloadN X64.here hx rfl (hb hby d16_11) rfl ?_
    refine XS.aloadN X64.here hx rfl (hb hby d16_12) rfl rfl ?_
    refine st83 _ ?_
    refine X83.arraylength hx (by rw [e83]; exact Ar85.1) (State.isArrayOf_alike hZ.alike Ar85.2.1) (g := (mkF m 16 #[.val (.ref a1), .val (.int (8 : Int32)), .val (.ref b1o), .val (.int (8 : Int32))] [(.ref a), (.int (8 : Int32))])) rfl rfl (hb hby d16_16) _ ?_
    rw [len_of Sz85 Nn85]
    show Steps p.tables e below (T83.setTop (mkF m 17 #[.val (.ref a1), .val (.int (8 : Int32)), .val (.ref b1o), .val (.int (8 : Int32))] [(.int (8 : Int32)), (.int (8 : Int32))])) _
    refine XS.icmpYes X83.here hx rfl (pc0 := 17) (pc' := 57) rfl (hb hby d16_17) rfl (flt (by decide)).2.1 (by decide) (by decide) ?_
    refine XS.aloadN X83.here hx rfl (hb hby d16_57) rfl rfl ?_
    refine XS.aloadN X83.here hx rfl (hb hby d16_58) rfl rfl ?_
    refine st87 _ ?_
    refine st89 _ ?_
    refine XS.aloadN X89.here hx rfl (hb hby d16_65) rfl rfl ?_
    refine XS.aloadN X89.here hx rfl (hb hby d16_66) rfl rfl ?_
    refine st91 _ ?_
    refine st94 _ ?_
    show Steps p.tables e below (T94.setTop (mkF m 73 #[.val (.ref a1), .val (.int (8 : Int32)), .val (.ref b1o), .val (.int (8 : Int32))] [])) _
    exact X94.returnOut hx Bd.returns (hb hby d16_73) hr
  · show QrmR Z a1 a k arr zi D mm sz h0 n0 _ T94.heap _
    have f95 := (f92.wr W94)
    have f96 := (Fw89.other W94 (Or.inr (slot_ne (Or.inl (hw _ (own_w 19 rfl))) (Or.inl (hw _ (own_w 31 rfl))) (by decide) (t := (.array .long)) (t' := .int) (by decide) (by decide))))
    have f97 := (((((((f8.keep KC4 (ninS ne2 nin0)).keep KT13 (ninS ne11 nin0)).keep KT28 (ninS ne11 nin0)).keep KT46 (ninS ne11 nin0)).keep KT64 (ninS ne11 nin0)).other W89 (Or.inr (slot_ne (Or.inl (hw _ (own_w 48 rfl))) (Or.inl (hw _ (own_w 19 rfl))) (by decide) (t := .int) (t' := (.array .long)) (by decide) (by decide)))).other W94 (Or.inr (slot_ne (Or.inl (hw _ (own_w 48 rfl))) (Or.inl (hw _ (own_w 31 rfl))) (by decide) (t := .int) (t' := .int) (by decide) (by decide))))
    have f98 := (((((((f9.keep KC4 (ninS ne2 nin0)).keep KT13 (ninS ne11 nin0)).keep KT28 (ninS ne11 nin0)).keep KT46 (ninS ne11 nin0)).keep KT64 (ninS ne11 nin0)).other W89 (Or.inr (slot_ne (Or.inl (hw _ (own_w 46 rfl))) (Or.inl (hw _ (own_w 19 rfl))) (by decide) (t := (.array .long)) (t' := (.array .long)) (by decide) (by decide)))).other W94 (Or.inr (slot_ne (Or.inl (hw _ (own_w 46 rfl))) (Or.inl (hw _ (own_w 31 rfl))) (by decide) (t := (.array .long)) (t' := .int) (by decide) (by decide))))
    have f99 := ((AV64.other W89 (Ne.symm ne11)).other W94 (Ne.symm ne11))
    rw [e94]
    exact ⟨rfl, N94, Z94, K94, sa4, _, _, ga4, f95, f96, Fw94, f97, f98, f99, hl64, own_part_all Rp rp64⟩
theorem pd_4 : parseMethodDescriptor "(J)J" = some ⟨[.long], some .long⟩ := by decide +kernel
theorem pd_5 : parseMethodDescriptor "(JJ)J" = some ⟨[.long, .long], some .long⟩ := by decide +kernel
theorem d7_0 : decode prog_19_method_3_code 0 = .ok (.aload_n 0, 1) := by decide +kernel
theorem d7_1 : decode prog_19_method_3_code 1 = .ok (.lload_n 1, 1) := by decide +kernel
theorem d7_2 : decode prog_19_method_3_code 2 = .ok (.invokestatic 28, 3) := by decide +kernel
theorem d7_5 : decode prog_19_method_3_code 5 = .ok (.invokevirtual 32, 3) := by decide +kernel
theorem d7_8 : decode prog_19_method_3_code 8 = .ok (.istore 5, 2) := by decide +kernel
theorem d7_10 : decode prog_19_method_3_code 10 = .ok (.aload_n 0, 1) := by decide +kernel
theorem d7_11 : decode prog_19_method_3_code 11 = .ok (.getfield 14, 3) := by decide +kernel
theorem d7_14 : decode prog_19_method_3_code 14 = .ok (.iload 5, 2) := by decide +kernel
theorem d7_16 : decode prog_19_method_3_code 16 = .ok (.laload, 1) := by decide +kernel
theorem d7_17 : decode prog_19_method_3_code 17 = .ok (.lload_n 1, 1) := by decide +kernel
theorem d7_18 : decode prog_19_method_3_code 18 = .ok (.lcmp, 1) := by decide +kernel
theorem d7_19 : decode prog_19_method_3_code 19 = .ok (.ifCond .ne 26, 3) := by decide +kernel
theorem d7_22 : decode prog_19_method_3_code 22 = .ok (.aload_n 0, 1) := by decide +kernel
theorem d7_23 : decode prog_19_method_3_code 23 = .ok (.getfield 14, 3) := by decide +kernel
theorem d7_26 : decode prog_19_method_3_code 26 = .ok (.iload 5, 2) := by decide +kernel
theorem d7_28 : decode prog_19_method_3_code 28 = .ok (.iconst 1, 1) := by decide +kernel
theorem d7_29 : decode prog_19_method_3_code 29 = .ok (.iadd, 1) := by decide +kernel
theorem d7_30 : decode prog_19_method_3_code 30 = .ok (.aload_n 0, 1) := by decide +kernel
theorem d7_31 : decode prog_19_method_3_code 31 = .ok (.getfield 14, 3) := by decide +kernel
theorem d7_34 : decode prog_19_method_3_code 34 = .ok (.iload 5, 2) := by decide +kernel
theorem d7_36 : decode prog_19_method_3_code 36 = .ok (.iconst 1, 1) := by decide +kernel
theorem d7_37 : decode prog_19_method_3_code 37 = .ok (.iadd, 1) := by decide +kernel
theorem d7_38 : decode prog_19_method_3_code 38 = .ok (.laload, 1) := by decide +kernel
theorem d7_39 : decode prog_19_method_3_code 39 = .ok (.lload_n 3, 1) := by decide +kernel
theorem d7_40 : decode prog_19_method_3_code 40 = .ok (.invokestatic 35, 3) := by decide +kernel
theorem d7_43 : decode prog_19_method_3_code 43 = .ok (.lastore, 1) := by decide +kernel
theorem d7_44 : decode prog_19_method_3_code 44 = .ok (.return_, 1) := by decide +kernel
theorem d7_45 : decode prog_19_method_3_code 45 = .ok (.aload_n 0, 1) := by decide +kernel
theorem d7_46 : decode prog_19_method_3_code 46 = .ok (.getfield 14, 3) := by decide +kernel
theorem d7_49 : decode prog_19_method_3_code 49 = .ok (.iload 5, 2) := by decide +kernel
theorem d7_51 : decode prog_19_method_3_code 51 = .ok (.lload_n 1, 1) := by decide +kernel
theorem d7_52 : decode prog_19_method_3_code 52 = .ok (.lastore, 1) := by decide +kernel
theorem d7_53 : decode prog_19_method_3_code 53 = .ok (.aload_n 0, 1) := by decide +kernel
theorem d7_54 : decode prog_19_method_3_code 54 = .ok (.getfield 14, 3) := by decide +kernel
theorem d7_57 : decode prog_19_method_3_code 57 = .ok (.iload 5, 2) := by decide +kernel
theorem d7_59 : decode prog_19_method_3_code 59 = .ok (.iconst 1, 1) := by decide +kernel
theorem d7_60 : decode prog_19_method_3_code 60 = .ok (.iadd, 1) := by decide +kernel
theorem d7_61 : decode prog_19_method_3_code 61 = .ok (.lload_n 3, 1) := by decide +kernel
theorem d7_62 : decode prog_19_method_3_code 62 = .ok (.lastore, 1) := by decide +kernel
theorem d7_63 : decode prog_19_method_3_code 63 = .ok (.aload_n 0, 1) := by decide +kernel
theorem d7_64 : decode prog_19_method_3_code 64 = .ok (.aconst_null, 1) := by decide +kernel
theorem d7_65 : decode prog_19_method_3_code 65 = .ok (.putfield 41, 3) := by decide +kernel
theorem d7_68 : decode prog_19_method_3_code 68 = .ok (.aload_n 0, 1) := by decide +kernel
theorem d7_69 : decode prog_19_method_3_code 69 = .ok (.dup, 1) := by decide +kernel
theorem d7_70 : decode prog_19_method_3_code 70 = .ok (.getfield 44, 3) := by decide +kernel
theorem d7_73 : decode prog_19_method_3_code 73 = .ok (.iconst 1, 1) := by decide +kernel
theorem d7_74 : decode prog_19_method_3_code 74 = .ok (.iadd, 1) := by decide +kernel
theorem d7_75 : decode prog_19_method_3_code 75 = .ok (.dup_x1, 1) := by decide +kernel
theorem d7_76 : decode prog_19_method_3_code 76 = .ok (.putfield 44, 3) := by decide +kernel
theorem d7_79 : decode prog_19_method_3_code 79 = .ok (.aload_n 0, 1) := by decide +kernel
theorem d7_80 : decode prog_19_method_3_code 80 = .ok (.getfield 14, 3) := by decide +kernel
theorem d7_83 : decode prog_19_method_3_code 83 = .ok (.arraylength, 1) := by decide +kernel
theorem d7_84 : decode prog_19_method_3_code 84 = .ok (.iconst 4, 1) := by decide +kernel
theorem d7_85 : decode prog_19_method_3_code 85 = .ok (.idiv, 1) := by decide +kernel
theorem d7_86 : decode prog_19_method_3_code 86 = .ok (.if_icmp .le 12, 3) := by decide +kernel
theorem d7_89 : decode prog_19_method_3_code 89 = .ok (.aload_n 0, 1) := by decide +kernel
theorem d7_90 : decode prog_19_method_3_code 90 = .ok (.aload_n 0, 1) := by decide +kernel
theorem d7_91 : decode prog_19_method_3_code 91 = .ok (.getfield 14, 3) := by decide +kernel
theorem d7_94 : decode prog_19_method_3_code 94 = .ok (.arraylength, 1) := by decide +kernel
theorem d7_95 : decode prog_19_method_3_code 95 = .ok (.invokevirtual 47, 3) := by decide +kernel
theorem d7_98 : decode prog_19_method_3_code 98 = .ok (.return_, 1) := by decide +kernel
theorem pn_7 : plainName "com/example/pricewright/pricewright/core/LongSumTable" = true := by first | (simp [plainName, overriddenIn]; done) | decide +kernel
theorem ef_rmA (m : MethodId) (a1 : Addr) (q2 : Int64) (q3 : Int64) : entryFrame m #[(.ref a1), (.long q2), (.long q3)] 6 = mkF m 0 #[.val (.ref a1), .val (.long q2), .second, .val (.long q3), .second, .unset] [] := by first | (simp [entryFrame, mkF, argsToLocals, Value.category]; done) | rfl
def QrmA (Z : State) (a1 : Addr) (q2 : Int64) (q3 : Int64) (a : Addr) (k : ClassId) (arr : List Int64) (D : Int64 → Prop) (mm : Int64 → Int64) (sz : Nat) (so : Value) (h0 : Heap) (n0 : Nat) (v : Option Value) (h : Heap) (L : List Loc) : Prop := v = none ∧ Fr n0 L ∧ n0 ≤ h.size ∧ Keep h0 h [a1, a] ∧ ∃ (n' sz' : Nat) (so' : Value) (D' : Int64 → Prop) (M' : Int64 → Int64), (∀ x, D' x ↔ (D x ∨ x = q2)) ∧ (∀ x, M' x = if x = q2 then mm q2 + q3 else mm x) ∧ own_Tab Z h n0 a1 n' D' M' sz' so' ∧ ((n' = 4 ∧ sz' ≤ 2) ∨ (n' = 8 ∧ sz' = 3)) ∧ sz' ≤ sz + 1 ∧ (D q2 → sz' = sz ∧ so' = so) ∧ (¬ D q2 → sz' = sz + 1 ∧ so' = .null)
set_option maxRecDepth 65536 in
set_option maxHeartbeats 40000000 in
theorem rmA (l : Launch) (Z : State) (a0 : Array Value) (hw : ∀ d ∈ tables_1, d.before a0 Z = true) (ws : List Jvm.Cond) (a1 : Addr) (q2 : Int64) (q3 : Int64) (a : Addr) (k : ClassId) (arr : List Int64) (D : Int64 → Prop) (mm : Int64 → Int64) (sz : Nat) (so : Value) (h0 : Heap) (n0 : Nat) (Z0 : n0 ≤ h0.size) (E : Exa Z h0 a1 "com/example/pricewright/pricewright/core/LongSumTable") (FS : Fld Z h0 a1 "com/example/pricewright/pricewright/core/LongSumTable" "slots" "[J" (.ref a)) (FH : Fld Z h0 a1 "com/example/pricewright/pricewright/core/LongSumTable" "shift" "I" (.int (62 : Int32))) (FZ : Fld Z h0 a1 "com/example/pricewright/pricewright/core/LongSumTable" "size" "I" (.int (Int32.ofNat sz))) (FQ : Fld Z h0 a1 "com/example/pricewright/pricewright/core/LongSumTable" "sorted" "[J" so) (AV : Arv Z h0 a k .long (8 : Int32) (arr.map Value.long) (.long (0 : Int64))) (hlen : arr.length = 2 * 4) (hne : a1 ≠ a) (ga1 : n0 ≤ a1) (ga : n0 ≤ a) (Rp : own_Rep (own_K arr) (own_W arr) 4 (own_hs 4) D mm sz) (hsz : sz ≤ 2) (hk : ¬ q2 = (-9223372036854775808 : Int64)) (hov : D q2 → ¬ ((mm q2 ^^^ (mm q2 + q3)) &&& (q3 ^^^ (mm q2 + q3))) < (0 : Int64)) :
    MetFree l (⟨"com/example/pricewright/pricewright/core/LongSumTable", "add", "(JJ)V"⟩ : MethodName) (head1 (Jvm.Cond.code (⟨"com/example/pricewright/pricewright/core/LongSumTable", "add", "(JJ)V"⟩ : MethodName) prog_19_method_3_code 6 none :: ws) ({ frames := 4, cells := 2, slots := 20, locals := 59 } : Room)) (fun a U => a = #[(.ref a1), (.long q2), (.long q3)] ∧ Z.Warmed39 U.vm ∧ U.heap = h0) (fun _ _ _ _ _ => True) (fun _ U o U' => ∃ v L, o = .returned v ∧ QrmA Z a1 q2 q3 a k arr D mm sz so h0 n0 v U'.heap L ∧ FrameEnd U o U' L ({ frames := 4, cells := 2, slots := 20, locals := 59 } : Room).cells ({ frames := 4, cells := 2, slots := 20, locals := 59 } : Room).slots) := by
  refine MetFree.of_bodySF (plainFor_of_name pn_7) hisR ?_
  intro p e s m args below meth c s₁ Bd hml0 hP hK
  obtain ⟨rfl, hZ, hh⟩ := hP
  have hx := Bd.exec
  have hby := Bd.bytes
  have hml : c.maxLocals = 6 := hml0
  have hown : s.vm.findClass "com/example/pricewright/pricewright/core/LongSumTable" = some m.cls := findClass_of_methodNamed Bd.named
  have hnm := (name_of_methodNamed Bd.named Bd.method).1
  have X0 : Stand p l e ({ frames := 4, cells := 2, slots := 20, locals := 59 } : Room) s m #[(.ref a1), (.long q2), (.long q3)] below meth c s₁ [] 0 0 := Stand.of_body Bd
  have e0 : s₁.heap = h0 := by rw [← hh, Bd.state]; rfl
  have N0 := Fr.nil n0
  have pre0 : ∀ t, Steps p.tables e below (s₁.setTop (mkF m 0 #[.val (.ref a1), .val (.long q2), .second, .val (.long q3), .second, .unset] [])) t → Steps p.tables e below (s₁.setTop (entryFrame m #[(.ref a1), (.long q2), (.long q3)] 6)) t := fun t k => castTop (ef_rmA m a1 q2 q3) k
  have hfr : ∃ j, j < 4 ∧ own_K arr j = own_FREE := own_cnt_free (by rw [Rp.2.2.2]; omega)
  obtain ⟨_, _, ⟨T1, Lq1, kq1, nq1⟩, -, X1, ⟨Lc1, hQ1, lq1, yq1, zq1⟩, st1⟩ := Jvm.LawKit.callS X0 hx (y := (⟨"com/example/pricewright/pricewright/core/LongSumTable", "held", "(J)J"⟩ : MethodName)) hown (mvT hZ (hw _ (own_w 37 rfl))) (mvT hZ (hw _ (own_w 38 rfl))) (mvT hZ (hw _ (own_w 7 rfl))) (mvT hZ (hw _ (own_w 39 rfl))) (by decide) (backOf (W := 1) (rmH l Z a0 hw [] q2  h0 n0 Z0 hk) hZ (hw _ (own_w 39 rfl)) (hw _ (own_w 7 rfl)) (by decide) (by decide)) (g := (mkF m 2 #[.val (.ref a1), .val (.long q2), .second, .val (.long q3), .second, .unset] [(.long q2), (.ref a1)])) rfl (by rw [hml]; rfl) (argsL := [(.long q2)]) (rest := [(.ref a1)]) (lenOf pd_4 rfl) rfl (by show 2 * 0 + _ ≤ _; exact Nat.le_of_eq rfl) (hb hby d7_2) (fun _ _ => ⟨rfl, e0, (by decide : 0 + 0 ≤ _), (by decide : 0 + 0 ≤ _)⟩)
  dsimp only [Pt.U, Pt.locs, Pt.cells, Pt.slots] at X1 lq1 yq1 zq1 st1 hQ1
  subst lq1 yq1 zq1
  obtain ⟨r1, hr1, rfl, N1q, e1⟩ := hQ1
  have N1 := Fr.app N0 N1q
  have hs1 := hr1.symm
  subst hs1
  obtain ⟨cq2, qq2, qq2'⟩ := E.cell
  obtain ⟨_, _, ⟨T2, Lq2, kq2, nq2⟩, -, X2, ⟨Lc2, hQ2, lq2, yq2, zq2⟩, st2⟩ := X1.privateBack hx (y := (⟨"com/example/pricewright/pricewright/core/LongSumTable", "index", "(J)I"⟩ : MethodName)) hown (mvT hZ (hw _ (own_w 40 rfl))) (mvT hZ (hw _ (own_w 41 rfl))) (own_selpriv (mvT hZ (hw _ (own_w 6 rfl))) (Cond.privateMethod_at (mvP hZ (hw _ (own_w 42 rfl)) (args := #[]))) (mvT hZ (hw _ (own_w 41 rfl))) (by decide)) (Cond.privateMethod_at (mvP hZ (hw _ (own_w 42 rfl)) (args := #[]))) (mvT hZ (hw _ (own_w 43 rfl))) (by decide) (backOf (W := 0) (rmX l Z a0 hw [] a1 q2 a k (arr) 4 (62 : Int32) h0 n0 Z0 (Or.inl ⟨rfl, rfl⟩) FS FH AV hfr) hZ (hw _ (own_w 43 rfl)) (hw _ (own_w 7 rfl)) (by decide) (by decide)) (g := (mkF m 5 #[.val (.ref a1), .val (.long q2), .second, .val (.long q3), .second, .unset] [(.long q2), (.ref a1)])) rfl (by rw [hml]; rfl) (Steps.refl _) (a := a1) (by rw [e1]; exact qq2) qq2' (argsL := [(.long q2)]) (rest := []) (lenOf pd_1 rfl) rfl (by show 2 * 0 + _ ≤ _; exact Nat.le_of_eq rfl) (hb hby d7_5) (fun _ _ => ⟨rfl, e1, (by decide : 0 + 0 ≤ _), (by decide : 0 + 0 ≤ _)⟩)
  dsimp only [Pt.U, Pt.locs, Pt.cells, Pt.slots] at X2 lq2 yq2 zq2 st2 hQ2
  subst lq2 yq2 zq2
  obtain ⟨r2, hr2, rfl, N2q, e2⟩ := hQ2
  have N2 := Fr.app N1 N2q
  obtain ⟨i2, hi2, rfl, P2⟩ := hr2
  obtain ⟨T3, X3, e3, st3⟩ := getF X2 hx hZ hown (host := "") (Or.inl (hw _ (own_w 18 rfl))) Via.refl e2 FS (g := (mkF m 11 #[.val (.ref a1), .val (.long q2), .second, .val (.long q3), .second, .val (.int (own_p i2))] [(.ref a1)])) rfl rfl (hb hby d7_11)
  obtain ⟨cl4, Ar4, qk4, Sz4, Nn4, Hh4, Gg4⟩ := id (AV)
  have hin5 : ¬ ((own_p i2) < 0 ∨ cl4.slots.size ≤ ((own_p i2)).toNatClampNeg) := inb_of Sz4 ⟨own_p0 (own_lt8 hi2 (Or.inl rfl : 4 = 4 ∨ 4 = 8)), own_plt hi2 (Or.inl rfl : 4 = 4 ∨ 4 = 8)⟩
  have hat5 : cl4.slots[((own_p i2)).toNatClampNeg]? = some (.long (own_K arr i2)) := Has.at Hh4 hin5 (own_ldK arr (own_lt8 hi2 (Or.inl rfl : 4 = 4 ∨ 4 = 8)))
  by_cases hc19 : (own_K arr i2) = q2
  · obtain ⟨T6, X6, e6, st6⟩ := getF X3 hx hZ hown (host := "") (Or.inl (hw _ (own_w 18 rfl))) Via.refl e3 FS (g := (mkF m 23 #[.val (.ref a1), .val (.long q2), .second, .val (.long q3), .second, .val (.int (own_p i2))] [(.ref a1)])) rfl rfl (hb hby d7_23)
    obtain ⟨T7, X7, e7, st7⟩ := getF X6 hx hZ hown (host := "") (Or.inl (hw _ (own_w 18 rfl))) Via.refl e6 FS (g := (mkF m 31 #[.val (.ref a1), .val (.long q2), .second, .val (.long q3), .second, .val (.int (own_p i2))] [(.ref a1), (.int ((own_p i2) + (1 : Int32))), (.ref a)])) rfl rfl (hb hby d7_31)
    obtain ⟨cl8, Ar8, qk8, Sz8, Nn8, Hh8, Gg8⟩ := id (AV)
    have hin9 : ¬ (((own_p i2) + (1 : Int32)) < 0 ∨ cl8.slots.size ≤ (((own_p i2) + (1 : Int32))).toNatClampNeg) := inb_of Sz8 ⟨own_q0 (own_lt8 hi2 (Or.inl rfl : 4 = 4 ∨ 4 = 8)), own_qlt hi2 (Or.inl rfl : 4 = 4 ∨ 4 = 8)⟩
    have hat9 : cl8.slots[(((own_p i2) + (1 : Int32))).toNatClampNeg]? = some (.long (own_W arr i2)) := Has.at Hh8 hin9 (own_ldW arr (own_lt8 hi2 (Or.inl rfl : 4 = 4 ∨ 4 = 8)))
    have dm := own_rep_dom Rp hi2 hk hc19
    have ho : ¬ ((own_W arr i2 ^^^ (own_W arr i2 + q3)) &&& (q3 ^^^ (own_W arr i2 + q3))) < (0 : Int64) := by rw [dm.2]; exact hov dm.1
    obtain ⟨_, _, ⟨T10, Lq10, kq10, nq10⟩, -, X10, ⟨Lc10, hQ10, lq10, yq10, zq10⟩, st10⟩ := Jvm.LawKit.callS X7 hx (y := (⟨"java/lang/Math", "addExact", "(JJ)J"⟩ : MethodName)) hown (mvT hZ (hw _ (own_w 98 rfl))) (mvT hZ (hw _ (own_w 99 rfl))) (mvT hZ (hw _ (own_w 100 rfl))) (mvT hZ (hw _ (own_w 101 rfl))) (by decide) (backOf (W := 2) (rmE l Z a0 hw [] (own_W arr i2) q3  h0 n0 Z0 ho) hZ (hw _ (own_w 101 rfl)) (hw _ (own_w 100 rfl)) (by decide) (by decide)) (g := (mkF m 40 #[.val (.ref a1), .val (.long q2), .second, .val (.long q3), .second, .val (.int (own_p i2))] [(.long q3), (.long (own_W arr i2)), (.int ((own_p i2) + (1 : Int32))), (.ref a)])) rfl (by rw [hml]; rfl) (argsL := [(.long (own_W arr i2)), (.long q3)]) (rest := [(.int ((own_p i2) + (1 : Int32))), (.ref a)]) (lenOf pd_5 rfl) rfl (by show 2 * 0 + _ ≤ _; exact Nat.le_of_eq rfl) (hb hby d7_40) (fun _ _ => ⟨rfl, e7, (by decide : 0 + 0 ≤ _), (by decide : 0 + 0 ≤ _)⟩)
    dsimp only [Pt.U, Pt.locs, Pt.cells, Pt.slots] at X10 lq10 yq10 zq10 st10 hQ10
    subst lq10 yq10 zq10
    obtain ⟨r10, hr10, rfl, N10q, e10⟩ := hQ10
    have N10 := Fr.app N2 N10q
    subst hr10
    obtain ⟨cl11, Ar11, qk11, Sz11, Nn11, Hh11, Gg11⟩ := id (AV)
    have hin12 : ¬ (((own_p i2) + (1 : Int32)) < 0 ∨ cl11.slots.size ≤ (((own_p i2) + (1 : Int32))).toNatClampNeg) := inb_of Sz11 ⟨own_q0 (own_lt8 hi2 (Or.inl rfl : 4 = 4 ∨ 4 = 8)), own_qlt hi2 (Or.inl rfl : 4 = 4 ∨ 4 = 8)⟩
    obtain ⟨T12, h12, X12, e12, W12, st12⟩ := stJ X10 hx hZ e10 Ar11 (j := ((own_p i2) + (1 : Int32))) hin12 (g := (mkF m 43 #[.val (.ref a1), .val (.long q2), .second, .val (.long q3), .second, .val (.int (own_p i2))] [(.long (own_W arr i2 + q3)), (.int ((own_p i2) + (1 : Int32))), (.ref a)])) rfl rfl (hb hby d7_43)
    have N12 := Fr.snoc X12 N10 ga
    have Z12 : n0 ≤ h12.size := by rw [W12.size]; exact Z0
    have K12 : Keep h0 h12 [a1, a] := (Keep.refl h0 [a1, a]).wr W12 (Or.inl (own_w 1 rfl))
    have V12 : Arv Z h12 a k .long (8 : Int32) ((arr.set (2 * i2 + 1) (own_W arr i2 + q3)).map Value.long) (.long (0 : Int64)) := by
      have q := Arv.set Ar11 qk11 Sz11 Nn11 Hh11 Gg11 rfl W12 (2 * i2 + 1) (own_qN (own_lt8 hi2 (Or.inl rfl : 4 = 4 ∨ 4 = 8))) (by rw [List.length_map, hlen]; omega)
      rw [List.map_set]; exact q
    obtain ⟨fs, hr, hrun, hended, hW, hsame⟩ := X12.leave (v := none) (fun _ => rfl) (BodyLoose.notSynchronized Bd)
    refine ⟨_, _, pre0 _ ?_, hrun, hended, _, _, rfl, ?_, ⟨_, rfl⟩, hW, hsame.mono (by decide) (by decide)⟩
    · show Steps p.tables e below (s₁.setTop (mkF m 0 #[.val (.ref a1), .val (.long q2), .second, .val (.long q3), .second, .unset] [])) _
      refine XS.aloadN X0.here hx rfl (hb hby d7_0) rfl rfl ?_
      refine XS.lloadN X0.here hx rfl (hb hby d7_1) rfl ?_
      refine st1 _ ?_
      refine st2.trans ?_
      refine XS.istore X2.here hx rfl (hb hby d7_8) rfl (l' := #[.val (.ref a1), .val (.long q2), .second, .val (.long q3), .second, .val (.int (own_p i2))]) rfl ?_
      refine XS.aloadN X2.here hx rfl (hb hby d7_10) rfl rfl ?_
      refine st3 _ ?_
      refine XS.iload X3.here hx rfl (hb hby d7_14) rfl ?_
      refine X3.laload hx (j := (own_p i2)) (v := (.long (own_K arr i2))) (by rw [e3]; exact Ar4.1) (State.isArrayOf_alike hZ.alike Ar4.2.1) Ar4.2.2 hin5 hat5 (g := (mkF m 16 #[.val (.ref a1), .val (.long q2), .second, .val (.long q3), .second, .val (.int (own_p i2))] [(.int (own_p i2)), (.ref a)])) rfl rfl (hb hby d7_16) _ ?_
      refine XS.lloadN X3.here hx rfl (hb hby d7_17) rfl ?_
      refine XS.lcmp X3.here hx rfl (hb hby d7_18) rfl ?_
      refine XS.ifNo X3.here hx rfl (hb hby d7_19) rfl ((if0 _ _).trans (teq (own_lceq hc19)).2) ?_
      refine XS.aloadN X3.here hx rfl (hb hby d7_22) rfl rfl ?_
      refine st6 _ ?_
      refine XS.iload X6.here hx rfl (hb hby d7_26) rfl ?_
      refine XS.iconst X6.here hx rfl (hb hby d7_28) ?_
      refine XS.iadd X6.here hx rfl (hb hby d7_29) rfl ?_
      refine XS.aloadN X6.here hx rfl (hb hby d7_30) rfl rfl ?_
      refine st7 _ ?_
      refine XS.iload X7.here hx rfl (hb hby d7_34) rfl ?_
      refine XS.iconst X7.here hx rfl (hb hby d7_36) ?_
      refine XS.iadd X7.here hx rfl (hb hby d7_37) rfl ?_
      refine X7.laload hx (j := ((own_p i2) + (1 : Int32))) (v := (.long (own_W arr i2))) (by rw [e7]; exact Ar8.1) (State.isArrayOf_alike hZ.alike Ar8.2.1) Ar8.2.2 hin9 hat9 (g := (mkF m 38 #[.val (.ref a1), .val (.long q2), .second, .val (.long q3), .second, .val (.int (own_p i2))] [(.int ((own_p i2) + (1 : Int32))), (.ref a), (.int ((own_p i2) + (1 : Int32))), (.ref a)])) rfl rfl (hb hby d7_38) _ ?_
      refine XS.lloadN X7.here hx rfl (hb hby d7_39) rfl ?_
      refine st10 _ ?_
      refine st12 _ ?_
      show Steps p.tables e below (T12.setTop (mkF m 44 #[.val (.ref a1), .val (.long q2), .second, .val (.long q3), .second, .val (.int (own_p i2))] [])) _
      exact X12.returnOut hx Bd.returns (hb hby d7_44) hr
    · show QrmA Z a1 q2 q3 a k arr D mm sz so h0 n0 _ T12.heap _
      have f13 := (E.wr W12)
      have f14 := (FS.other W12 (Or.inl hne))
      have f15 := (FH.other W12 (Or.inl hne))
      have f16 := (FZ.other W12 (Or.inl hne))
      have f17 := (FQ.other W12 (Or.inl hne))
      rw [e12]
      have rp := own_repW (v := q3) hlen Rp hi2 hk hc19
      exact ⟨rfl, N12, Z12, K12, 4, sz, so, _, _, fun _ => Iff.rfl, fun _ => rfl, ⟨a, k, _, 62, Or.inl ⟨rfl, rfl⟩, ga, f13, f14, f15, f16, f17, V12, by rw [List.length_set]; exact hlen, rp.2⟩, Or.inl ⟨rfl, hsz⟩, by omega, fun _ => ⟨rfl, rfl⟩, fun q => absurd rp.1 q⟩
  · obtain ⟨T18, X18, e18, st18⟩ := getF X3 hx hZ hown (host := "") (Or.inl (hw _ (own_w 18 rfl))) Via.refl e3 FS (g := (mkF m 46 #[.val (.ref a1), .val (.long q2), .second, .val (.long q3), .second, .val (.int (own_p i2))] [(.ref a1)])) rfl rfl (hb hby d7_46)
    obtain ⟨cl19, Ar19, qk19, Sz19, Nn19, Hh19, Gg19⟩ := id (AV)
    have hin20 : ¬ ((own_p i2) < 0 ∨ cl19.slots.size ≤ ((own_p i2)).toNatClampNeg) := inb_of Sz19 ⟨own_p0 (own_lt8 hi2 (Or.inl rfl : 4 = 4 ∨ 4 = 8)), own_plt hi2 (Or.inl rfl : 4 = 4 ∨ 4 = 8)⟩
    obtain ⟨T20, h20, X20, e20, W20, st20⟩ := stJ X18 hx hZ e18 Ar19 (j := (own_p i2)) hin20 (g := (mkF m 52 #[.val (.ref a1), .val (.long q2), .second, .val (.long q3), .second, .val (.int (own_p i2))] [(.long q2), (.int (own_p i2)), (.ref a)])) rfl rfl (hb hby d7_52)
    have N20 := Fr.snoc X20 N2 ga
    have Z20 : n0 ≤ h20.size := by rw [W20.size]; exact Z0
    have K20 : Keep h0 h20 [a1, a] := (Keep.refl h0 [a1, a]).wr W20 (Or.inl (own_w 1 rfl))
    have V20 : Arv Z h20 a k .long (8 : Int32) ((arr.set (2 * i2) q2).map Value.long) (.long (0 : Int64)) := by
      have q := Arv.set Ar19 qk19 Sz19 Nn19 Hh19 Gg19 rfl W20 (2 * i2) (own_pN (own_lt8 hi2 (Or.inl rfl : 4 = 4 ∨ 4 = 8))) (by rw [List.length_map, hlen]; omega)
      rw [List.map_set]; exact q
    have f21 := (FS.other W20 (Or.inl hne))
    obtain ⟨T22, X22, e22, st22⟩ := getF X20 hx hZ hown (host := "") (Or.inl (hw _ (own_w 18 rfl))) Via.refl e20 f21 (g := (mkF m 54 #[.val (.ref a1), .val (.long q2), .second, .val (.long q3), .second, .val (.int (own_p i2))] [(.ref a1)])) rfl rfl (hb hby d7_54)
    obtain ⟨cl23, Ar23, qk23, Sz23, Nn23, Hh23, Gg23⟩ := id (V20)
    have hin24 : ¬ (((own_p i2) + (1 : Int32)) < 0 ∨ cl23.slots.size ≤ (((own_p i2) + (1 : Int32))).toNatClampNeg) := inb_of Sz23 ⟨own_q0 (own_lt8 hi2 (Or.inl rfl : 4 = 4 ∨ 4 = 8)), own_qlt hi2 (Or.inl rfl : 4 = 4 ∨ 4 = 8)⟩
    obtain ⟨T24, h24, X24, e24, W24, st24⟩ := stJ X22 hx hZ e22 Ar23 (j := ((own_p i2) + (1 : Int32))) hin24 (g := (mkF m 62 #[.val (.ref a1), .val (.long q2), .second, .val (.long q3), .second, .val (.int (own_p i2))] [(.long q3), (.int ((own_p i2) + (1 : Int32))), (.ref a)])) rfl rfl (hb hby d7_62)
    have N24 := Fr.snoc X24 N20 ga
    have Z24 : n0 ≤ h24.size := by rw [W24.size]; exact Z20
    have K24 : Keep h0 h24 [a1, a] := K20.wr W24 (Or.inl (own_w 1 rfl))
    have V24 : Arv Z h24 a k .long (8 : Int32) (((arr.set (2 * i2) q2).set (2 * i2 + 1) q3).map Value.long) (.long (0 : Int64)) := by
      have q := Arv.set Ar23 qk23 Sz23 Nn23 Hh23 Gg23 rfl W24 (2 * i2 + 1) (own_qN (own_lt8 hi2 (Or.inl rfl : 4 = 4 ∨ 4 = 8))) (by rw [List.length_map, List.length_set, hlen]; omega)
      rw [List.map_set]; exact q
    have f25 := ((E.wr W20).wr W24)
    have f26 := ((FQ.other W20 (Or.inl hne)).other W24 (Or.inl hne))
    obtain ⟨T27, h27, X27, e27, W27, st27⟩ := putF X24 hx hZ hown (host := "") (Or.inl (hw _ (own_w 45 rfl))) Via.refl e24 f26 f25 (Or.inl (hw _ (own_w 46 rfl))) (hw _ (own_w 6 rfl)) (ty := (.array .long)) (by decide) rfl rfl (g := (mkF m 65 #[.val (.ref a1), .val (.long q2), .second, .val (.long q3), .second, .val (.int (own_p i2))] [.null, (.ref a1)])) rfl rfl (hb hby d7_65)
    have N27 := Fr.snoc X27 N24 ga1
    have Z27 : n0 ≤ h27.size := by rw [W27.size]; exact Z24
    have K27 : Keep h0 h27 [a1, a] := K24.wr W27 (Or.inl (own_w 0 rfl))
    have Fw27 := f26.same W27
    have f28 := (((FZ.other W20 (Or.inl hne)).other W24 (Or.inl hne)).other W27 (Or.inr (slot_ne (Or.inl (hw _ (own_w 48 rfl))) (Or.inl (hw _ (own_w 46 rfl))) (by decide) (t := .int) (t' := (.array .long)) (by decide) (by decide))))
    obtain ⟨T29, X29, e29, st29⟩ := getF X27 hx hZ hown (host := "") (Or.inl (hw _ (own_w 47 rfl))) Via.refl e27 f28 (g := (mkF m 70 #[.val (.ref a1), .val (.long q2), .second, .val (.long q3), .second, .val (.int (own_p i2))] [(.ref a1), (.ref a1)])) rfl rfl (hb hby d7_70)
    have f30 := (f25.wr W27)
    obtain ⟨T31, h31, X31, e31, W31, st31⟩ := putF X29 hx hZ hown (host := "") (Or.inl (hw _ (own_w 47 rfl))) Via.refl e29 f28 f30 (Or.inl (hw _ (own_w 48 rfl))) (hw _ (own_w 6 rfl)) (ty := .int) (by decide) rfl rfl (g := (mkF m 76 #[.val (.ref a1), .val (.long q2), .second, .val (.long q3), .second, .val (.int (own_p i2))] [(.int ((Int32.ofNat sz) + (1 : Int32))), (.ref a1), (.int ((Int32.ofNat sz) + (1 : Int32)))])) rfl rfl (hb hby d7_76)
    have N31 := Fr.snoc X31 N27 ga1
    have Z31 : n0 ≤ h31.size := by rw [W31.size]; exact Z27
    have K31 : Keep h0 h31 [a1, a] := K27.wr W31 (Or.inl (own_w 0 rfl))
    have Fw31 := f28.same W31
    have f32 := (((f21.other W24 (Or.inl hne)).other W27 (Or.inr (slot_ne (Or.inl (hw _ (own_w 19 rfl))) (Or.inl (hw _ (own_w 46 rfl))) (by decide) (t := (.array .long)) (t' := (.array .long)) (by decide) (by decide)))).other W31 (Or.inr (slot_ne (Or.inl (hw _ (own_w 19 rfl))) (Or.inl (hw _ (own_w 48 rfl))) (by decide) (t := (.array .long)) (t' := .int) (by decide) (by decide))))
    obtain ⟨T33, X33, e33, st33⟩ := getF X31 hx hZ hown (host := "") (Or.inl (hw _ (own_w 18 rfl))) Via.refl e31 f32 (g := (mkF m 80 #[.val (.ref a1), .val (.long q2), .second, .val (.long q3), .second, .val (.int (own_p i2))] [(.ref a1), (.int ((Int32.ofNat sz) + (1 : Int32)))])) rfl rfl (hb hby d7_80)
    have f34 := ((V24.other W27 (Ne.symm hne)).other W31 (Ne.symm hne))
    obtain ⟨cl35, Ar35, qk35, Sz35, Nn35, Hh35, Gg35⟩ := id (f34)
    by_cases hc86 : (2 : Int32) < ((Int32.ofNat sz) + (1 : Int32))
    · obtain ⟨T36, X36, e36, st36⟩ := getF X33 hx hZ hown (host := "") (Or.inl (hw _ (own_w 18 rfl))) Via.refl e33 f32 (g := (mkF m 91 #[.val (.ref a1), .val (.long q2), .second, .val (.long q3), .second, .val (.int (own_p i2))] [(.ref a1), (.ref a1)])) rfl rfl (hb hby d7_91)
      obtain ⟨cl37, Ar37, qk37, Sz37, Nn37, Hh37, Gg37⟩ := id (f34)
      have rp := own_repK (v := q3) hlen Rp hi2 hk P2 hc19
      have s2 := own_sz2 hsz hc86
      have f39 := (f30.wr W31)
      have f40 := ((((FH.other W20 (Or.inl hne)).other W24 (Or.inl hne)).other W27 (Or.inr (slot_ne (Or.inl (hw _ (own_w 31 rfl))) (Or.inl (hw _ (own_w 46 rfl))) (by decide) (t := .int) (t' := (.array .long)) (by decide) (by decide)))).other W31 (Or.inr (slot_ne (Or.inl (hw _ (own_w 31 rfl))) (Or.inl (hw _ (own_w 48 rfl))) (by decide) (t := .int) (t' := .int) (by decide) (by decide))))
      have f41 := (Fw27.other W31 (Or.inr (slot_ne (Or.inl (hw _ (own_w 46 rfl))) (Or.inl (hw _ (own_w 48 rfl))) (by decide) (t := (.array .long)) (t' := .int) (by decide) (by decide))))
      obtain ⟨cq38, qq38, qq38'⟩ := f39.cell
      obtain ⟨_, _, ⟨T38, Lq38, kq38, nq38⟩, -, X38, ⟨Lc38, hQ38, lq38, yq38, zq38⟩, st38⟩ := X36.privateBack hx (y := (⟨"com/example/pricewright/pricewright/core/LongSumTable", "resize", "(I)V"⟩ : MethodName)) hown (mvT hZ (hw _ (own_w 72 rfl))) (mvT hZ (hw _ (own_w 73 rfl))) (own_selpriv (mvT hZ (hw _ (own_w 6 rfl))) (Cond.privateMethod_at (mvP hZ (hw _ (own_w 74 rfl)) (args := #[]))) (mvT hZ (hw _ (own_w 73 rfl))) (by decide)) (Cond.privateMethod_at (mvP hZ (hw _ (own_w 74 rfl)) (args := #[]))) (mvT hZ (hw _ (own_w 75 rfl))) (by decide) (backOf (W := 0) (rmR l Z a0 hw [] a1 a k (((arr.set (2 * i2) q2).set (2 * i2 + 1) q3)) (Int32.ofNat sz + 1) (fun x => D x ∨ x = q2) (fun x => if x = q2 then mm q2 + q3 else mm x) (sz + 1) h31 n0 Z31 f39 f32 f40 Fw31 f41 f34 (by rw [List.length_set, List.length_set]; exact hlen) hne ga1 ga rp.2) hZ (hw _ (own_w 75 rfl)) (hw _ (own_w 7 rfl)) (by decide) (by decide)) (g := (mkF m 95 #[.val (.ref a1), .val (.long q2), .second, .val (.long q3), .second, .val (.int (own_p i2))] [(.int (8 : Int32)), (.ref a1)])) rfl (by rw [hml]; rfl) (Steps.refl _) (a := a1) (by rw [e36]; exact qq38) qq38' (argsL := [(.int (8 : Int32))]) (rest := []) (lenOf pd_2 rfl) rfl (by show 2 * 0 + _ ≤ _; exact Nat.le_of_eq rfl) (hb hby d7_95) (fun _ _ => ⟨rfl, e36, (by decide : 0 + 2 ≤ _), (by decide : 0 + 20 ≤ _)⟩)
      dsimp only [Pt.U, Pt.locs, Pt.cells, Pt.slots] at X38 lq38 yq38 zq38 st38 hQ38
      subst lq38 yq38 zq38
      obtain ⟨rfl, N38q, Z38, KC38, a', k', arr', ga', E', FS', FH', FZ', FQ', AV', hl', rp'⟩ := hQ38
      have N38 := Fr.app N31 N38q
      have K38 : Keep h0 T38.heap [a1, a] := K31.trans KC38 (allS (Or.inl (own_w 0 rfl)) all0)
      obtain ⟨fs, hr, hrun, hended, hW, hsame⟩ := X38.leave (v := none) (fun _ => rfl) (BodyLoose.notSynchronized Bd)
      refine ⟨_, _, pre0 _ ?_, hrun, hended, _, _, rfl, ?_, ⟨_, rfl⟩, hW, hsame.mono (by decide) (by decide)⟩
      · show Steps p.tables e below (s₁.setTop (mkF m 0 #[.val (.ref a1), .val (.long q2), .second, .val (.long q3), .second, .unset] [])) _
        refine XS.aloadN X0.here hx rfl (hb hby d7_0) rfl rfl ?_
        refine XS.lloadN X0.here hx rfl (hb hby d7_1) rfl ?_
        refine st1 _ ?_
        refine st2.trans ?_
        refine XS.istore X2.here hx rfl (hb hby d7_8) rfl (l' := #[.val (.ref a1), .val (.long q2), .second, .val (.long q3), .second, .val (.int (own_p i2))]) rfl ?_
        refine XS.aloadN X2.here hx rfl (hb hby d7_10) rfl rfl ?_
        refine st3 _ ?_
        refine XS.iload X3.here hx rfl (hb hby d7_14) rfl ?_
        refine X3.laload hx (j := (own_p i2)) (v := (.long (own_K arr i2))) (by rw [e3]; exact Ar4.1) (State.isArrayOf_alike hZ.alike Ar4.2.1) Ar4.2.2 hin5 hat5 (g := (mkF m 16 #[.val (.ref a1), .val (.long q2), .second, .val (.long q3), .second, .val (.int (own_p i2))] [(.int (own_p i2)), (.ref a)])) rfl rfl (hb hby d7_16) _ ?_
        refine XS.lloadN X3.here hx rfl (hb hby d7_17) rfl ?_
        refine XS.lcmp X3.here hx rfl (hb hby d7_18) rfl ?_
        refine XS.ifYes X3.here hx rfl (pc0 := 19) (pc' := 45) rfl (hb hby d7_19) rfl ((if0 _ _).trans (feq (own_lcne hc19)).2) (by decide) (by decide) ?_
        refine XS.aloadN X3.here hx rfl (hb hby d7_45) rfl rfl ?_
        refine st18 _ ?_
        refine XS.iload X18.here hx rfl (hb hby d7_49) rfl ?_
        refine XS.lloadN X18.here hx rfl (hb hby d7_51) rfl ?_
        refine st20 _ ?_
        refine XS.aloadN X20.here hx rfl (hb hby d7_53) rfl rfl ?_
        refine st22 _ ?_
        refine XS.iload X22.here hx rfl (hb hby d7_57) rfl ?_
        refine XS.iconst X22.here hx rfl (hb hby d7_59) ?_
        refine XS.iadd X22.here hx rfl (hb hby d7_60) rfl ?_
        refine XS.lloadN X22.here hx rfl (hb hby d7_61) rfl ?_
        refine st24 _ ?_
        refine XS.aloadN X24.here hx rfl (hb hby d7_63) rfl rfl ?_
        refine XS.aconstNull X24.here hx rfl (hb hby d7_64) ?_
        refine st27 _ ?_
        refine XS.aloadN X27.here hx rfl (hb hby d7_68) rfl rfl ?_
        refine XS.dup X27.here hx rfl (hb hby d7_69) rfl rfl ?_
        refine st29 _ ?_
        refine XS.iconst X29.here hx rfl (hb hby d7_73) ?_
        refine XS.iadd X29.here hx rfl (hb hby d7_74) rfl ?_
        refine XS.dupX1 X29.here hx rfl (hb hby d7_75) rfl rfl rfl ?_
        refine st31 _ ?_
        refine XS.aloadN X31.here hx rfl (hb hby d7_79) rfl rfl ?_
        refine st33 _ ?_
        refine X33.arraylength hx (by rw [e33]; exact Ar35.1) (State.isArrayOf_alike hZ.alike Ar35.2.1) (g := (mkF m 83 #[.val (.ref a1), .val (.long q2), .second, .val (.long q3), .second, .val (.int (own_p i2))] [(.ref a), (.int ((Int32.ofNat sz) + (1 : Int32)))])) rfl rfl (hb hby d7_83) _ ?_
        rw [len_of Sz35 Nn35]
        show Steps p.tables e below (T33.setTop (mkF m 84 #[.val (.ref a1), .val (.long q2), .second, .val (.long q3), .second, .val (.int (own_p i2))] [(.int (8 : Int32)), (.int ((Int32.ofNat sz) + (1 : Int32)))])) _
        refine XS.iconst X33.here hx rfl (hb hby d7_84) ?_
        refine XS.idiv X33.here hx rfl (hb hby d7_85) rfl (by decide) ?_
        refine XS.icmpNo X33.here hx rfl (hb hby d7_86) rfl (tlt hc86).2.2.2 ?_
        refine XS.aloadN X33.here hx rfl (hb hby d7_89) rfl rfl ?_
        refine XS.aloadN X33.here hx rfl (hb hby d7_90) rfl rfl ?_
        refine st36 _ ?_
        refine X36.arraylength hx (by rw [e36]; exact Ar37.1) (State.isArrayOf_alike hZ.alike Ar37.2.1) (g := (mkF m 94 #[.val (.ref a1), .val (.long q2), .second, .val (.long q3), .second, .val (.int (own_p i2))] [(.ref a), (.ref a1)])) rfl rfl (hb hby d7_94) _ ?_
        rw [len_of Sz37 Nn37]
        show Steps p.tables e below (T36.setTop (mkF m 95 #[.val (.ref a1), .val (.long q2), .second, .val (.long q3), .second, .val (.int (own_p i2))] [(.int (8 : Int32)), (.ref a1)])) _
        refine st38.trans ?_
        show Steps p.tables e below (T38.setTop (mkF m 98 #[.val (.ref a1), .val (.long q2), .second, .val (.long q3), .second, .val (.int (own_p i2))] [])) _
        exact X38.returnOut hx Bd.returns (hb hby d7_98) hr
      · show QrmA Z a1 q2 q3 a k arr D mm sz so h0 n0 _ T38.heap _
        exact ⟨rfl, N38, Z38, K38, 8, sz + 1, .null, _, _, fun _ => Iff.rfl, fun _ => rfl, ⟨a', k', arr', 61, Or.inr ⟨rfl, rfl⟩, ga', E', FS', FH', by rw [← own_sz1 hsz]; exact FZ', FQ', AV', hl', rp'⟩, Or.inr ⟨rfl, by omega⟩, by omega, fun q => absurd q rp.1, fun _ => ⟨rfl, rfl⟩⟩
    · obtain ⟨fs, hr, hrun, hended, hW, hsame⟩ := X33.leave (v := none) (fun _ => rfl) (BodyLoose.notSynchronized Bd)
      refine ⟨_, _, pre0 _ ?_, hrun, hended, _, _, rfl, ?_, ⟨_, rfl⟩, hW, hsame.mono (by decide) (by decide)⟩
      · show Steps p.tables e below (s₁.setTop (mkF m 0 #[.val (.ref a1), .val (.long q2), .second, .val (.long q3), .second, .unset] [])) _
        refine XS.aloadN X0.here hx rfl (hb hby d7_0) rfl rfl ?_
        refine XS.lloadN X0.here hx rfl (hb hby d7_1) rfl ?_
        refine st1 _ ?_
        refine st2.trans ?_
        refine XS.istore X2.here hx rfl (hb hby d7_8) rfl (l' := #[.val (.ref a1), .val (.long q2), .second, .val (.long q3), .second, .val (.int (own_p i2))]) rfl ?_
        refine XS.aloadN X2.here hx rfl (hb hby d7_10) rfl rfl ?_
        refine st3 _ ?_
        refine XS.iload X3.here hx rfl (hb hby d7_14) rfl ?_
        refine X3.laload hx (j := (own_p i2)) (v := (.long (own_K arr i2))) (by rw [e3]; exact Ar4.1) (State.isArrayOf_alike hZ.alike Ar4.2.1) Ar4.2.2 hin5 hat5 (g := (mkF m 16 #[.val (.ref a1), .val (.long q2), .second, .val (.long q3), .second, .val (.int (own_p i2))] [(.int (own_p i2)), (.ref a)])) rfl rfl (hb hby d7_16) _ ?_
        refine XS.lloadN X3.here hx rfl (hb hby d7_17) rfl ?_
        refine XS.lcmp X3.here hx rfl (hb hby d7_18) rfl ?_
        refine XS.ifYes X3.here hx rfl (pc0 := 19) (pc' := 45) rfl (hb hby d7_19) rfl ((if0 _ _).trans (feq (own_lcne hc19)).2) (by decide) (by decide) ?_
        refine XS.aloadN X3.here hx rfl (hb hby d7_45) rfl rfl ?_
        refine st18 _ ?_
        refine XS.iload X18.here hx rfl (hb hby d7_49) rfl ?_
        refine XS.lloadN X18.here hx rfl (hb hby d7_51) rfl ?_
        refine st20 _ ?_
        refine XS.aloadN X20.here hx rfl (hb hby d7_53) rfl rfl ?_
        refine st22 _ ?_
        refine XS.iload X22.here hx rfl (hb hby d7_57) rfl ?_
        refine XS.iconst X22.here hx rfl (hb hby d7_59) ?_
        refine XS.iadd X22.here hx rfl (hb hby d7_60) rfl ?_
        refine XS.lloadN X22.here hx rfl (hb hby d7_61) rfl ?_
        refine st24 _ ?_
        refine XS.aloadN X24.here hx rfl (hb hby d7_63) rfl rfl ?_
        refine XS.aconstNull X24.here hx rfl (hb hby d7_64) ?_
        refine st27 _ ?_
        refine XS.aloadN X27.here hx rfl (hb hby d7_68) rfl rfl ?_
        refine XS.dup X27.here hx rfl (hb hby d7_69) rfl rfl ?_
        refine st29 _ ?_
        refine XS.iconst X29.here hx rfl (hb hby d7_73) ?_
        refine XS.iadd X29.here hx rfl (hb hby d7_74) rfl ?_
        refine XS.dupX1 X29.here hx rfl (hb hby d7_75) rfl rfl rfl ?_
        refine st31 _ ?_
        refine XS.aloadN X31.here hx rfl (hb hby d7_79) rfl rfl ?_
        refine st33 _ ?_
        refine X33.arraylength hx (by rw [e33]; exact Ar35.1) (State.isArrayOf_alike hZ.alike Ar35.2.1) (g := (mkF m 83 #[.val (.ref a1), .val (.long q2), .second, .val (.long q3), .second, .val (.int (own_p i2))] [(.ref a), (.int ((Int32.ofNat sz) + (1 : Int32)))])) rfl rfl (hb hby d7_83) _ ?_
        rw [len_of Sz35 Nn35]
        show Steps p.tables e below (T33.setTop (mkF m 84 #[.val (.ref a1), .val (.long q2), .second, .val (.long q3), .second, .val (.int (own_p i2))] [(.int (8 : Int32)), (.int ((Int32.ofNat sz) + (1 : Int32)))])) _
        refine XS.iconst X33.here hx rfl (hb hby d7_84) ?_
        refine XS.idiv X33.here hx rfl (hb hby d7_85) rfl (by decide) ?_
        refine XS.icmpYes X33.here hx rfl (pc0 := 86) (pc' := 98) rfl (hb hby d7_86) rfl (flt hc86).2.2.2 (by decide) (by decide) ?_
        show Steps p.tables e below (T33.setTop (mkF m 98 #[.val (.ref a1), .val (.long q2), .second, .val (.long q3), .second, .val (.int (own_p i2))] [])) _
        exact X33.returnOut hx Bd.returns (hb hby d7_98) hr
      · show QrmA Z a1 q2 q3 a k arr D mm sz so h0 n0 _ T33.heap _
        have f42 := (f30.wr W31)
        have f43 := ((((FH.other W20 (Or.inl hne)).other W24 (Or.inl hne)).other W27 (Or.inr (slot_ne (Or.inl (hw _ (own_w 31 rfl))) (Or.inl (hw _ (own_w 46 rfl))) (by decide) (t := .int) (t' := (.array .long)) (by decide) (by decide)))).other W31 (Or.inr (slot_ne (Or.inl (hw _ (own_w 31 rfl))) (Or.inl (hw _ (own_w 48 rfl))) (by decide) (t := .int) (t' := .int) (by decide) (by decide))))
        have f44 := (Fw27.other W31 (Or.inr (slot_ne (Or.inl (hw _ (own_w 46 rfl))) (Or.inl (hw _ (own_w 48 rfl))) (by decide) (t := (.array .long)) (t' := .int) (by decide) (by decide))))
        rw [e33]
        have rp := own_repK (v := q3) hlen Rp hi2 hk P2 hc19
        have s1 := own_sz3 hsz hc86
        exact ⟨rfl, N31, Z31, K31, 4, sz + 1, .null, _, _, fun _ => Iff.rfl, fun _ => rfl, ⟨a, k, _, 62, Or.inl ⟨rfl, rfl⟩, ga, f42, f32, f43, by rw [← own_sz1 hsz]; exact Fw31, f44, f34, by rw [List.length_set, List.length_set]; exact hlen, rp.2⟩, Or.inl ⟨rfl, by omega⟩, by omega, fun q => absurd q rp.1, fun _ => ⟨rfl, rfl⟩⟩
theorem own_ovf {a b : Int64} (h1 : -9223372036854775808 ≤ a.toInt + b.toInt) (h2 : a.toInt + b.toInt < 9223372036854775808) : ¬ ((a ^^^ (a + b)) &&& (b ^^^ (a + b))) < (0 : Int64) := by
  have e := c_ladd a b
  have l1 := (a + b).toInt_lt; have l2 := (a + b).le_toInt
  have x := c_xorSL a (a + b); have y := c_xorSL b (a + b); have z := c_andSL (a ^^^ (a + b)) (b ^^^ (a + b))
  rw [Int64.lt_iff_toInt_lt, show (0 : Int64).toInt = 0 from rfl]
  intro q
  generalize (a ^^^ (a + b)).toInt = X at *
  generalize (b ^^^ (a + b)).toInt = Y at *
  generalize ((a ^^^ (a + b)) &&& (b ^^^ (a + b))).toInt = W at *
  generalize (a + b).toInt = S at *
  have z2 := z.2.1; have z3 := z.2.2
  by_cases p1 : 0 ≤ X
  · have := z2 p1; omega
  · by_cases p2 : 0 ≤ Y
    · have := z3 p2; omega
    · obtain ⟨x1, x2, x3, x4⟩ := x
      obtain ⟨y1, y2, y3, y4⟩ := y
      by_cases s0 : 0 ≤ S <;> by_cases a0 : 0 ≤ a.toInt <;> by_cases b0 : 0 ≤ b.toInt
      · exact p1 (x4 a0 s0)
      · exact p1 (x4 a0 s0)
      · exact p2 (y4 b0 s0)
      · omega
      · omega
      · exact p2 (y1 (by omega) (by omega))
      · exact p1 (x1 (by omega) (by omega))
      · exact p1 (x1 (by omega) (by omega))
theorem own_sh62 {sh : Int32} (h : (4 = 4 ∧ sh = 62) ∨ (4 = 8 ∧ sh = 61)) : sh = 62 := by
  rcases h with ⟨-, h⟩ | ⟨h, -⟩
  · exact h
  · omega

def own_ks (K : Nat → Int64) : Nat → List Int64
  | 0 => []
  | i + 1 => if K i = own_FREE then own_ks K i else own_ks K i ++ [K i]
theorem own_ks_len (K : Nat → Int64) (i : Nat) : (own_ks K i).length = own_cnt K i := by
  induction i with
  | zero => rfl
  | succ i ih => simp only [own_ks, own_cnt]; split <;> simp [ih]
theorem own_ks_mem (K : Nat → Int64) (n : Nat) (x : Int64) : x ∈ own_ks K n ↔ x ≠ own_FREE ∧ ∃ i, i < n ∧ K i = x := by
  induction n with
  | zero => constructor
            · intro h; cases h
            · rintro ⟨-, i, h, -⟩; omega
  | succ n ih =>
    simp only [own_ks]
    split
    · rename_i q
      rw [ih]
      constructor
      · rintro ⟨a, i, b, c⟩; exact ⟨a, i, by omega, c⟩
      · rintro ⟨a, i, b, c⟩
        refine ⟨a, i, ?_, c⟩
        by_cases z : i = n
        · subst z; exact absurd (c.symm.trans q) a
        · omega
    · rename_i q
      rw [List.mem_append, ih, List.mem_singleton]
      constructor
      · rintro (⟨a, i, b, c⟩ | rfl)
        · exact ⟨a, i, by omega, c⟩
        · exact ⟨q, n, by omega, rfl⟩
      · rintro ⟨a, i, b, c⟩
        by_cases z : i = n
        · subst z; exact Or.inr c.symm
        · exact Or.inl ⟨a, i, by omega, c⟩
theorem own_ks_nodup {K : Nat → Int64} {n : Nat} (h : ∀ i j, i < n → j < n → K i = K j → K i ≠ own_FREE → i = j) : (own_ks K n).Nodup := by
  induction n with
  | zero => exact List.nodup_nil
  | succ n ih =>
    have ih' := ih fun i j a b => h i j (by omega) (by omega)
    simp only [own_ks]
    split
    · exact ih'
    · rename_i q
      rw [List.nodup_append]
      refine ⟨ih', by simp, ?_⟩
      intro x hx y hy e
      rw [List.mem_singleton] at hy
      subst hy
      obtain ⟨-, i, a, b⟩ := (own_ks_mem K n x).mp hx
      have := h i n (by omega) (by omega) (b.trans e) (by rw [b, e]; exact q)
      omega
/-- the first i slots' keys, and noughts up to z places -/
def own_pad (K : Nat → Int64) (i z : Nat) : List Int64 := own_ks K i ++ List.replicate (z - own_cnt K i) 0
theorem own_cntS {K : Nat → Int64} {i : Nat} (h : K i = own_FREE) : own_cnt K (i + 1) = own_cnt K i := by simp only [own_cnt, if_pos h]; rfl
theorem own_cntP {K : Nat → Int64} {i : Nat} (h : ¬ K i = own_FREE) : own_cnt K (i + 1) = own_cnt K i + 1 := by simp only [own_cnt, if_neg h]
theorem own_padS {K : Nat → Int64} {i z : Nat} (h : K i = own_FREE) : own_pad K (i + 1) z = own_pad K i z := by
  unfold own_pad; rw [own_cntS h]; simp only [own_ks, if_pos h]
theorem own_padP {K : Nat → Int64} {i z : Nat} (h : ¬ K i = own_FREE) (hz : own_cnt K i < z) : own_pad K (i + 1) z = (own_pad K i z).set (own_cnt K i) (K i) := by
  unfold own_pad
  rw [own_cntP h]
  simp only [own_ks, if_neg h]
  rw [show z - own_cnt K i = (z - (own_cnt K i + 1)) + 1 by omega, List.replicate_succ]
  rw [List.set_append_right _ _ (by rw [own_ks_len]; omega), own_ks_len, Nat.sub_self, List.set_cons_zero, List.append_assoc]
  rfl
theorem own_pad_len (K : Nat → Int64) {i z : Nat} (h : own_cnt K i ≤ z) : (own_pad K i z).length = z := by unfold own_pad; rw [List.length_append, own_ks_len, List.length_replicate]; omega
theorem own_pad_full {K : Nat → Int64} {n z : Nat} (h : own_cnt K n = z) : own_pad K n z = own_ks K n := by unfold own_pad; rw [h, Nat.sub_self]; simp
theorem own_c3 {c : Nat} (h : c < 4) : (Int32.ofNat c).toNatClampNeg = c ∧ ¬ Int32.ofNat c < 0 := (by decide +kernel : ∀ j : Fin 4, (Int32.ofNat j.1).toNatClampNeg = j.1 ∧ ¬ Int32.ofNat j.1 < 0) ⟨c, h⟩
theorem own_c3lt {c z : Nat} (h : c < z) (hz : z < 4) : Int32.ofNat c < Int32.ofNat z := (by decide +kernel : ∀ j k : Fin 4, j.1 < k.1 → Int32.ofNat j.1 < Int32.ofNat k.1) ⟨c, by omega⟩ ⟨z, hz⟩ h
theorem own_c3s {c : Nat} (h : c < 3) : Int32.ofNat c + (1 : Int32) = Int32.ofNat (c + 1) := (by decide +kernel : ∀ j : Fin 3, Int32.ofNat j.1 + (1 : Int32) = Int32.ofNat (j.1 + 1)) ⟨c, h⟩
theorem own_dom_ks {K W : Nat → Int64} {n : Nat} {hs : Int64 → Nat} {D : Int64 → Prop} {mm : Int64 → Int64} {sz : Nat} (R : own_Rep K W n hs D mm sz) : (∀ x, D x ↔ x ∈ own_ks K n) ∧ (own_ks K n).Nodup ∧ (own_ks K n).length = sz := by
  refine ⟨fun x => ?_, own_ks_nodup fun i j a b c d => own_rep_inj R a b c d, by rw [own_ks_len]; exact R.2.2.2⟩
  rw [own_ks_mem]
  constructor
  · exact fun q => R.2.1 x q
  · rintro ⟨a, i, b, c⟩; exact (own_rep_dom R b a c).1
theorem own_l1 {l : List Int64} (h : l.length = 1) : ∃ x0, l = [x0] := by match l, h with | [x0], _ => exact ⟨x0, rfl⟩
theorem own_l2 {l : List Int64} (h : l.length = 2) : ∃ x0 x1, l = [x0, x1] := by match l, h with | [x0, x1], _ => exact ⟨x0, x1, rfl⟩
theorem own_l3 {l : List Int64} (h : l.length = 3) : ∃ x0 x1 x2, l = [x0, x1, x2] := by match l, h with | [x0, x1, x2], _ => exact ⟨x0, x1, x2, rfl⟩
theorem own_ltT {a b c : Int64} (h1 : ¬ b < a) (h2 : ¬ c < b) : ¬ c < a := by rw [Int64.lt_iff_toInt_lt] at *; omega
theorem own_ltN {a b : Int64} (h : a < b) : ¬ b < a := by rw [Int64.lt_iff_toInt_lt] at *; omega
theorem own_str {a b : Int64} (h : ¬ b < a) (n : ¬ a = b) : a < b := by
  rw [Int64.lt_iff_toInt_lt] at *
  have : a.toInt ≠ b.toInt := fun q => n (Int64.toInt_inj.mp q)
  omega

theorem d14_0 : decode jdk_2529_method_15_code 0 = .ok (.iload_n 1, 1) := by decide +kernel
theorem d14_1 : decode jdk_2529_method_15_code 1 = .ok (.istore 4, 2) := by decide +kernel
theorem d14_3 : decode jdk_2529_method_15_code 3 = .ok (.iinc 4 1, 3) := by decide +kernel
theorem d14_6 : decode jdk_2529_method_15_code 6 = .ok (.iload 4, 2) := by decide +kernel
theorem d14_8 : decode jdk_2529_method_15_code 8 = .ok (.iload_n 2, 1) := by decide +kernel
theorem d14_9 : decode jdk_2529_method_15_code 9 = .ok (.if_icmp .ge 60, 3) := by decide +kernel
theorem d14_69 : decode jdk_2529_method_15_code 69 = .ok (.return_, 1) := by decide +kernel
theorem pn_14 : plainName "java/util/DualPivotQuicksort" = true := by first | (simp [plainName, overriddenIn]; done) | decide +kernel
theorem ef_rmi1 (m : MethodId) (a1 : Addr) : entryFrame m #[(.ref a1), (.int (0 : Int32)), (.int (1 : Int32))] 7 = mkF m 0 #[.val (.ref a1), .val (.int (0 : Int32)), .val (.int (1 : Int32)), .unset, .unset, .unset, .unset] [] := by first | (simp [entryFrame, mkF, argsToLocals, Value.category]; done) | rfl
def Qrmi1 (Z : State) (a1 : Addr) (k : ClassId) (x0 : Int64) (h0 : Heap) (n0 : Nat) (v : Option Value) (h : Heap) (L : List Loc) : Prop := v = none ∧ Fr n0 L ∧ Keep h0 h [a1] ∧ ∃ y0 : Int64, Arv Z h a1 k .long (1 : Int32) [.long y0] (.long (0 : Int64)) ∧ (True) ∧ ((y0 = x0))
set_option maxRecDepth 65536 in
set_option maxHeartbeats 40000000 in
theorem rmi1 (l : Launch) (Z : State) (a0 : Array Value) (hw : ∀ d ∈ tables_1, d.before a0 Z = true) (ws : List Jvm.Cond) (a1 : Addr) (k : ClassId) (x0 : Int64) (h0 : Heap) (n0 : Nat) (Z0 : n0 ≤ h0.size) (A : Arv Z h0 a1 k .long (1 : Int32) [.long x0] (.long (0 : Int64))) (ga : n0 ≤ a1) :
    MetFree l (⟨"java/util/DualPivotQuicksort", "insertionSort", "([JII)V"⟩ : MethodName) (head1 (Jvm.Cond.code (⟨"java/util/DualPivotQuicksort", "insertionSort", "([JII)V"⟩ : MethodName) jdk_2529_method_15_code 7 none :: ws) ({ frames := 0, cells := 0, slots := 0, locals := 0 } : Room)) (fun a U => a = #[(.ref a1), (.int (0 : Int32)), (.int (1 : Int32))] ∧ Z.Warmed39 U.vm ∧ U.heap = h0) (fun _ _ _ _ _ => True) (fun _ U o U' => ∃ v L, o = .returned v ∧ Qrmi1 Z a1 k x0 h0 n0 v U'.heap L ∧ FrameEnd U o U' L ({ frames := 0, cells := 0, slots := 0, locals := 0 } : Room).cells ({ frames := 0, cells := 0, slots := 0, locals := 0 } : Room).slots) := by
  refine MetFree.of_bodySF (plainFor_of_name pn_14) hisR ?_
  intro p e s m args below meth c s₁ Bd hml0 hP hK
  obtain ⟨rfl, hZ, hh⟩ := hP
  have hx := Bd.exec
  have hby := Bd.bytes
  have hml : c.maxLocals = 7 := hml0
  have hown : s.vm.findClass "java/util/DualPivotQuicksort" = some m.cls := findClass_of_methodNamed Bd.named
  have hnm := (name_of_methodNamed Bd.named Bd.method).1
  have X0 : Stand p l e ({ frames := 0, cells := 0, slots := 0, locals := 0 } : Room) s m #[(.ref a1), (.int (0 : Int32)), (.int (1 : Int32))] below meth c s₁ [] 0 0 := Stand.of_body Bd
  have e0 : s₁.heap = h0 := by rw [← hh, Bd.state]; rfl
  have N0 := Fr.nil n0
  have pre0 : ∀ t, Steps p.tables e below (s₁.setTop (mkF m 0 #[.val (.ref a1), .val (.int (0 : Int32)), .val (.int (1 : Int32)), .unset, .unset, .unset, .unset] [])) t → Steps p.tables e below (s₁.setTop (entryFrame m #[(.ref a1), (.int (0 : Int32)), (.int (1 : Int32))] 7)) t := fun t k => castTop (ef_rmi1 m a1) k
  obtain ⟨fs, hr, hrun, hended, hW, hsame⟩ := X0.leave (v := none) (fun _ => rfl) (BodyLoose.notSynchronized Bd)
  refine ⟨_, _, pre0 _ ?_, hrun, hended, _, _, rfl, ?_, ⟨_, rfl⟩, hW, hsame.mono (by decide) (by decide)⟩
  · show Steps p.tables e below (s₁.setTop (mkF m 0 #[.val (.ref a1), .val (.int (0 : Int32)), .val (.int (1 : Int32)), .unset, .unset, .unset, .unset] [])) _
    refine XS.iloadN X0.here hx rfl (hb hby d14_0) rfl ?_
    refine XS.istore X0.here hx rfl (hb hby d14_1) rfl (l' := #[.val (.ref a1), .val (.int (0 : Int32)), .val (.int (1 : Int32)), .unset, .val (.int (0 : Int32)), .unset, .unset]) rfl ?_
    refine XS.iinc X0.here hx rfl (hb hby d14_3) rfl (l' := #[.val (.ref a1), .val (.int (0 : Int32)), .val (.int (1 : Int32)), .unset, .val (.int (1 : Int32)), .unset, .unset]) rfl ?_
    refine XS.iload X0.here hx rfl (hb hby d14_6) rfl ?_
    refine XS.iloadN X0.here hx rfl (hb hby d14_8) rfl ?_
    refine XS.icmpYes X0.here hx rfl (pc0 := 9) (pc' := 69) rfl (hb hby d14_9) rfl (flt (by decide)).2.1 (by decide) (by decide) ?_
    show Steps p.tables e below (s₁.setTop (mkF m 69 #[.val (.ref a1), .val (.int (0 : Int32)), .val (.int (1 : Int32)), .unset, .val (.int (1 : Int32)), .unset, .unset] [])) _
    exact X0.returnOut hx Bd.returns (hb hby d14_69) hr
  · show Qrmi1 Z a1 k x0 h0 n0 _ s₁.heap _
    rw [e0]
    exact ⟨rfl, N0, (Keep.refl h0 [a1]), x0, A, trivial, rfl⟩
theorem pd_6 : parseMethodDescriptor "([JII)V" = some ⟨[(.array .long), .int, .int], none⟩ := by decide +kernel
theorem d13_0 : decode jdk_2529_method_13_code 0 = .ok (.iload 4, 2) := by decide +kernel
theorem d13_2 : decode jdk_2529_method_13_code 2 = .ok (.iconst 1, 1) := by decide +kernel
theorem d13_3 : decode jdk_2529_method_13_code 3 = .ok (.isub, 1) := by decide +kernel
theorem d13_4 : decode jdk_2529_method_13_code 4 = .ok (.istore 5, 2) := by decide +kernel
theorem d13_6 : decode jdk_2529_method_13_code 6 = .ok (.iload 4, 2) := by decide +kernel
theorem d13_8 : decode jdk_2529_method_13_code 8 = .ok (.iload_n 3, 1) := by decide +kernel
theorem d13_9 : decode jdk_2529_method_13_code 9 = .ok (.isub, 1) := by decide +kernel
theorem d13_10 : decode jdk_2529_method_13_code 10 = .ok (.istore 6, 2) := by decide +kernel
theorem d13_12 : decode jdk_2529_method_13_code 12 = .ok (.iload 6, 2) := by decide +kernel
theorem d13_14 : decode jdk_2529_method_13_code 14 = .ok (.bipush 65, 2) := by decide +kernel
theorem d13_16 : decode jdk_2529_method_13_code 16 = .ok (.iload_n 2, 1) := by decide +kernel
theorem d13_17 : decode jdk_2529_method_13_code 17 = .ok (.iadd, 1) := by decide +kernel
theorem d13_18 : decode jdk_2529_method_13_code 18 = .ok (.if_icmp .ge 28, 3) := by decide +kernel
theorem d13_21 : decode jdk_2529_method_13_code 21 = .ok (.iload_n 2, 1) := by decide +kernel
theorem d13_22 : decode jdk_2529_method_13_code 22 = .ok (.iconst 1, 1) := by decide +kernel
theorem d13_23 : decode jdk_2529_method_13_code 23 = .ok (.iand, 1) := by decide +kernel
theorem d13_24 : decode jdk_2529_method_13_code 24 = .ok (.ifCond .le 22, 3) := by decide +kernel
theorem d13_46 : decode jdk_2529_method_13_code 46 = .ok (.iload 6, 2) := by decide +kernel
theorem d13_48 : decode jdk_2529_method_13_code 48 = .ok (.bipush 44, 2) := by decide +kernel
theorem d13_50 : decode jdk_2529_method_13_code 50 = .ok (.if_icmp .ge 11, 3) := by decide +kernel
theorem d13_53 : decode jdk_2529_method_13_code 53 = .ok (.aload_n 1, 1) := by decide +kernel
theorem d13_54 : decode jdk_2529_method_13_code 54 = .ok (.iload_n 3, 1) := by decide +kernel
theorem d13_55 : decode jdk_2529_method_13_code 55 = .ok (.iload 4, 2) := by decide +kernel
theorem d13_57 : decode jdk_2529_method_13_code 57 = .ok (.invokestatic 105, 3) := by decide +kernel
theorem d13_60 : decode jdk_2529_method_13_code 60 = .ok (.return_, 1) := by decide +kernel
theorem pn_13 : plainName "java/util/DualPivotQuicksort" = true := by first | (simp [plainName, overriddenIn]; done) | decide +kernel
theorem ef_rms1 (m : MethodId) (a2 : Addr) : entryFrame m #[.null, (.ref a2), (.int (0 : Int32)), (.int (0 : Int32)), (.int (1 : Int32))] 25 = mkF m 0 #[.val .null, .val (.ref a2), .val (.int (0 : Int32)), .val (.int (0 : Int32)), .val (.int (1 : Int32)), .unset, .unset, .unset, .unset, .unset, .unset, .unset, .unset, .unset, .unset, .unset, .unset, .unset, .unset, .unset, .unset, .unset, .unset, .unset, .unset] [] := by first | (simp [entryFrame, mkF, argsToLocals, Value.category]; done) | rfl
def Qrms1 (Z : State) (a2 : Addr) (k : ClassId) (x0 : Int64) (h0 : Heap) (n0 : Nat) (v : Option Value) (h : Heap) (L : List Loc) : Prop := v = none ∧ Fr n0 L ∧ Keep h0 h [a2] ∧ ∃ y0 : Int64, Arv Z h a2 k .long (1 : Int32) [.long y0] (.long (0 : Int64)) ∧ (True) ∧ ((y0 = x0))
set_option maxRecDepth 65536 in
set_option maxHeartbeats 40000000 in
theorem rms1 (l : Launch) (Z : State) (a0 : Array Value) (hw : ∀ d ∈ tables_1, d.before a0 Z = true) (ws : List Jvm.Cond) (a2 : Addr) (k : ClassId) (x0 : Int64) (h0 : Heap) (n0 : Nat) (Z0 : n0 ≤ h0.size) (A : Arv Z h0 a2 k .long (1 : Int32) [.long x0] (.long (0 : Int64))) (ga : n0 ≤ a2) :
    MetFree l (⟨"java/util/DualPivotQuicksort", "sort", "(Ljava/util/DualPivotQuicksort$Sorter;[JIII)V"⟩ : MethodName) (head1 (Jvm.Cond.code (⟨"java/util/DualPivotQuicksort", "sort", "(Ljava/util/DualPivotQuicksort$Sorter;[JIII)V"⟩ : MethodName) jdk_2529_method_13_code 25 none :: ws) ({ frames := 1, cells := 0, slots := 0, locals := 18 } : Room)) (fun a U => a = #[.null, (.ref a2), (.int (0 : Int32)), (.int (0 : Int32)), (.int (1 : Int32))] ∧ Z.Warmed39 U.vm ∧ U.heap = h0) (fun _ _ _ _ _ => True) (fun _ U o U' => ∃ v L, o = .returned v ∧ Qrms1 Z a2 k x0 h0 n0 v U'.heap L ∧ FrameEnd U o U' L ({ frames := 1, cells := 0, slots := 0, locals := 18 } : Room).cells ({ frames := 1, cells := 0, slots := 0, locals := 18 } : Room).slots) := by
  refine MetFree.of_bodySF (plainFor_of_name pn_13) hisR ?_
  intro p e s m args below meth c s₁ Bd hml0 hP hK
  obtain ⟨rfl, hZ, hh⟩ := hP
  have hx := Bd.exec
  have hby := Bd.bytes
  have hml : c.maxLocals = 25 := hml0
  have hown : s.vm.findClass "java/util/DualPivotQuicksort" = some m.cls := findClass_of_methodNamed Bd.named
  have hnm := (name_of_methodNamed Bd.named Bd.method).1
  have X0 : Stand p l e ({ frames := 1, cells := 0, slots := 0, locals := 18 } : Room) s m #[.null, (.ref a2), (.int (0 : Int32)), (.int (0 : Int32)), (.int (1 : Int32))] below meth c s₁ [] 0 0 := Stand.of_body Bd
  have e0 : s₁.heap = h0 := by rw [← hh, Bd.state]; rfl
  have N0 := Fr.nil n0
  have pre0 : ∀ t, Steps p.tables e below (s₁.setTop (mkF m 0 #[.val .null, .val (.ref a2), .val (.int (0 : Int32)), .val (.int (0 : Int32)), .val (.int (1 : Int32)), .unset, .unset, .unset, .unset, .unset, .unset, .unset, .unset, .unset, .unset, .unset, .unset, .unset, .unset, .unset, .unset, .unset, .unset, .unset, .unset] [])) t → Steps p.tables e below (s₁.setTop (entryFrame m #[.null, (.ref a2), (.int (0 : Int32)), (.int (0 : Int32)), (.int (1 : Int32))] 25)) t := fun t k => castTop (ef_rms1 m a2) k
  obtain ⟨_, _, ⟨T1, Lq1, kq1, nq1⟩, -, X1, ⟨Lc1, hQ1, lq1, yq1, zq1⟩, st1⟩ := Jvm.LawKit.callS X0 hx (y := (⟨"java/util/DualPivotQuicksort", "insertionSort", "([JII)V"⟩ : MethodName)) hown (mvT hZ (hw _ (own_w 65 rfl))) (mvT hZ (hw _ (own_w 66 rfl))) (mvT hZ (hw _ (own_w 60 rfl))) (mvT hZ (hw _ (own_w 67 rfl))) (by decide) (backOf (W := 0) (rmi1 l Z a0 hw [] a2 k x0 h0 n0 Z0 A ga) hZ (hw _ (own_w 67 rfl)) (hw _ (own_w 60 rfl)) (by decide) (by decide)) (g := (mkF m 57 #[.val .null, .val (.ref a2), .val (.int (0 : Int32)), .val (.int (0 : Int32)), .val (.int (1 : Int32)), .val (.int (0 : Int32)), .val (.int (1 : Int32)), .unset, .unset, .unset, .unset, .unset, .unset, .unset, .unset, .unset, .unset, .unset, .unset, .unset, .unset, .unset, .unset, .unset, .unset] [(.int (1 : Int32)), (.int (0 : Int32)), (.ref a2)])) rfl (by rw [hml]; rfl) (argsL := [(.ref a2), (.int (0 : Int32)), (.int (1 : Int32))]) (rest := []) (lenOf pd_6 rfl) rfl (by show 2 * 0 + _ ≤ _; exact Nat.le_of_eq rfl) (hb hby d13_57) (fun _ _ => ⟨rfl, e0, (by decide : 0 + 0 ≤ _), (by decide : 0 + 0 ≤ _)⟩)
  dsimp only [Pt.U, Pt.locs, Pt.cells, Pt.slots] at X1 lq1 yq1 zq1 st1 hQ1
  subst lq1 yq1 zq1
  obtain ⟨rfl, N1q, KC1, u1⟩ := hQ1
  have N1 := Fr.app N0 N1q
  have Z1 : n0 ≤ T1.heap.size := Nat.le_trans Z0 KC1.1
  have K1 : Keep h0 T1.heap [a2] := (Keep.refl h0 [a2]).trans KC1 (allS (Or.inl (own_w 0 rfl)) all0)
  obtain ⟨y1_0, AV1, so1, pm1⟩ := id u1
  obtain ⟨fs, hr, hrun, hended, hW, hsame⟩ := X1.leave (v := none) (fun _ => rfl) (BodyLoose.notSynchronized Bd)
  refine ⟨_, _, pre0 _ ?_, hrun, hended, _, _, rfl, ?_, ⟨_, rfl⟩, hW, hsame.mono (by decide) (by decide)⟩
  · show Steps p.tables e below (s₁.setTop (mkF m 0 #[.val .null, .val (.ref a2), .val (.int (0 : Int32)), .val (.int (0 : Int32)), .val (.int (1 : Int32)), .unset, .unset, .unset, .unset, .unset, .unset, .unset, .unset, .unset, .unset, .unset, .unset, .unset, .unset, .unset, .unset, .unset, .unset, .unset, .unset] [])) _
    refine XS.iload X0.here hx rfl (hb hby d13_0) rfl ?_
    refine XS.iconst X0.here hx rfl (hb hby d13_2) ?_
    refine XS.isub X0.here hx rfl (hb hby d13_3) rfl ?_
    refine XS.istore X0.here hx rfl (hb hby d13_4) rfl (l' := #[.val .null, .val (.ref a2), .val (.int (0 : Int32)), .val (.int (0 : Int32)), .val (.int (1 : Int32)), .val (.int (0 : Int32)), .unset, .unset, .unset, .unset, .unset, .unset, .unset, .unset, .unset, .unset, .unset, .unset, .unset, .unset, .unset, .unset, .unset, .unset, .unset]) rfl ?_
    refine XS.iload X0.here hx rfl (hb hby d13_6) rfl ?_
    refine XS.iloadN X0.here hx rfl (hb hby d13_8) rfl ?_
    refine XS.isub X0.here hx rfl (hb hby d13_9) rfl ?_
    refine XS.istore X0.here hx rfl (hb hby d13_10) rfl (l' := #[.val .null, .val (.ref a2), .val (.int (0 : Int32)), .val (.int (0 : Int32)), .val (.int (1 : Int32)), .val (.int (0 : Int32)), .val (.int (1 : Int32)), .unset, .unset, .unset, .unset, .unset, .unset, .unset, .unset, .unset, .unset, .unset, .unset, .unset, .unset, .unset, .unset, .unset, .unset]) rfl ?_
    refine XS.iload X0.here hx rfl (hb hby d13_12) rfl ?_
    refine XS.bipush X0.here hx rfl (hb hby d13_14) ?_
    refine XS.iloadN X0.here hx rfl (hb hby d13_16) rfl ?_
    refine XS.iadd X0.here hx rfl (hb hby d13_17) rfl ?_
    refine XS.icmpNo X0.here hx rfl (hb hby d13_18) rfl (tlt (by decide)).2.1 ?_
    refine XS.iloadN X0.here hx rfl (hb hby d13_21) rfl ?_
    refine XS.iconst X0.here hx rfl (hb hby d13_22) ?_
    refine XS.iand X0.here hx rfl (hb hby d13_23) rfl ?_
    refine XS.ifYes X0.here hx rfl (pc0 := 24) (pc' := 46) rfl (hb hby d13_24) rfl ((if0 _ _).trans (flt (by decide)).2.2.2) (by decide) (by decide) ?_
    refine XS.iload X0.here hx rfl (hb hby d13_46) rfl ?_
    refine XS.bipush X0.here hx rfl (hb hby d13_48) ?_
    refine XS.icmpNo X0.here hx rfl (hb hby d13_50) rfl (tlt (by decide)).2.1 ?_
    refine XS.aloadN X0.here hx rfl (hb hby d13_53) rfl rfl ?_
    refine XS.iloadN X0.here hx rfl (hb hby d13_54) rfl ?_
    refine XS.iload X0.here hx rfl (hb hby d13_55) rfl ?_
    refine st1 _ ?_
    show Steps p.tables e below (T1.setTop (mkF m 60 #[.val .null, .val (.ref a2), .val (.int (0 : Int32)), .val (.int (0 : Int32)), .val (.int (1 : Int32)), .val (.int (0 : Int32)), .val (.int (1 : Int32)), .unset, .unset, .unset, .unset, .unset, .unset, .unset, .unset, .unset, .unset, .unset, .unset, .unset, .unset, .unset, .unset, .unset, .unset] [])) _
    exact X1.returnOut hx Bd.returns (hb hby d13_60) hr
  · show Qrms1 Z a2 k x0 h0 n0 _ T1.heap _
    exact ⟨rfl, N1, K1, u1⟩
theorem pd_7 : parseMethodDescriptor "(Ljava/util/DualPivotQuicksort$Sorter;[JIII)V" = some ⟨[(.object "java/util/DualPivotQuicksort$Sorter"), (.array .long), .int, .int, .int], none⟩ := by decide +kernel
theorem d12_0 : decode jdk_2529_method_12_code 0 = .ok (.iload_n 3, 1) := by decide +kernel
theorem d12_1 : decode jdk_2529_method_12_code 1 = .ok (.iload_n 2, 1) := by decide +kernel
theorem d12_2 : decode jdk_2529_method_12_code 2 = .ok (.isub, 1) := by decide +kernel
theorem d12_3 : decode jdk_2529_method_12_code 3 = .ok (.istore 4, 2) := by decide +kernel
theorem d12_5 : decode jdk_2529_method_12_code 5 = .ok (.iload_n 1, 1) := by decide +kernel
theorem d12_6 : decode jdk_2529_method_12_code 6 = .ok (.iconst 1, 1) := by decide +kernel
theorem d12_7 : decode jdk_2529_method_12_code 7 = .ok (.if_icmp .le 61, 3) := by decide +kernel
theorem d12_68 : decode jdk_2529_method_12_code 68 = .ok (.aconst_null, 1) := by decide +kernel
theorem d12_69 : decode jdk_2529_method_12_code 69 = .ok (.aload_n 0, 1) := by decide +kernel
theorem d12_70 : decode jdk_2529_method_12_code 70 = .ok (.iconst 0, 1) := by decide +kernel
theorem d12_71 : decode jdk_2529_method_12_code 71 = .ok (.iload_n 2, 1) := by decide +kernel
theorem d12_72 : decode jdk_2529_method_12_code 72 = .ok (.iload_n 3, 1) := by decide +kernel
theorem d12_73 : decode jdk_2529_method_12_code 73 = .ok (.invokestatic 99, 3) := by decide +kernel
theorem d12_76 : decode jdk_2529_method_12_code 76 = .ok (.return_, 1) := by decide +kernel
theorem pn_12 : plainName "java/util/DualPivotQuicksort" = true := by first | (simp [plainName, overriddenIn]; done) | decide +kernel
theorem ef_rmd1 (m : MethodId) (a1 : Addr) : entryFrame m #[(.ref a1), (.int (0 : Int32)), (.int (0 : Int32)), (.int (1 : Int32))] 7 = mkF m 0 #[.val (.ref a1), .val (.int (0 : Int32)), .val (.int (0 : Int32)), .val (.int (1 : Int32)), .unset, .unset, .unset] [] := by first | (simp [entryFrame, mkF, argsToLocals, Value.category]; done) | rfl
def Qrmd1 (Z : State) (a1 : Addr) (k : ClassId) (x0 : Int64) (h0 : Heap) (n0 : Nat) (v : Option Value) (h : Heap) (L : List Loc) : Prop := v = none ∧ Fr n0 L ∧ Keep h0 h [a1] ∧ ∃ y0 : Int64, Arv Z h a1 k .long (1 : Int32) [.long y0] (.long (0 : Int64)) ∧ (True) ∧ ((y0 = x0))
set_option maxRecDepth 65536 in
set_option maxHeartbeats 40000000 in
theorem rmd1 (l : Launch) (Z : State) (a0 : Array Value) (hw : ∀ d ∈ tables_1, d.before a0 Z = true) (ws : List Jvm.Cond) (a1 : Addr) (k : ClassId) (x0 : Int64) (h0 : Heap) (n0 : Nat) (Z0 : n0 ≤ h0.size) (A : Arv Z h0 a1 k .long (1 : Int32) [.long x0] (.long (0 : Int64))) (ga : n0 ≤ a1) :
    MetFree l (⟨"java/util/DualPivotQuicksort", "sort", "([JIII)V"⟩ : MethodName) (head1 (Jvm.Cond.code (⟨"java/util/DualPivotQuicksort", "sort", "([JIII)V"⟩ : MethodName) jdk_2529_method_12_code 7 none :: ws) ({ frames := 2, cells := 0, slots := 0, locals := 54 } : Room)) (fun a U => a = #[(.ref a1), (.int (0 : Int32)), (.int (0 : Int32)), (.int (1 : Int32))] ∧ Z.Warmed39 U.vm ∧ U.heap = h0) (fun _ _ _ _ _ => True) (fun _ U o U' => ∃ v L, o = .returned v ∧ Qrmd1 Z a1 k x0 h0 n0 v U'.heap L ∧ FrameEnd U o U' L ({ frames := 2, cells := 0, slots := 0, locals := 54 } : Room).cells ({ frames := 2, cells := 0, slots := 0, locals := 54 } : Room).slots) := by
  refine MetFree.of_bodySF (plainFor_of_name pn_12) hisR ?_
  intro p e s m args below meth c s₁ Bd hml0 hP hK
  obtain ⟨rfl, hZ, hh⟩ := hP
  have hx := Bd.exec
  have hby := Bd.bytes
  have hml : c.maxLocals = 7 := hml0
  have hown : s.vm.findClass "java/util/DualPivotQuicksort" = some m.cls := findClass_of_methodNamed Bd.named
  have hnm := (name_of_methodNamed Bd.named Bd.method).1
  have X0 : Stand p l e ({ frames := 2, cells := 0, slots := 0, locals := 54 } : Room) s m #[(.ref a1), (.int (0 : Int32)), (.int (0 : Int32)), (.int (1 : Int32))] below meth c s₁ [] 0 0 := Stand.of_body Bd
  have e0 : s₁.heap = h0 := by rw [← hh, Bd.state]; rfl
  have N0 := Fr.nil n0
  have pre0 : ∀ t, Steps p.tables e below (s₁.setTop (mkF m 0 #[.val (.ref a1), .val (.int (0 : Int32)), .val (.int (0 : Int32)), .val (.int (1 : Int32)), .unset, .unset, .unset] [])) t → Steps p.tables e below (s₁.setTop (entryFrame m #[(.ref a1), (.int (0 : Int32)), (.int (0 : Int32)), (.int (1 : Int32))] 7)) t := fun t k => castTop (ef_rmd1 m a1) k
  obtain ⟨_, _, ⟨T1, Lq1, kq1, nq1⟩, -, X1, ⟨Lc1, hQ1, lq1, yq1, zq1⟩, st1⟩ := Jvm.LawKit.callS X0 hx (y := (⟨"java/util/DualPivotQuicksort", "sort", "(Ljava/util/DualPivotQuicksort$Sorter;[JIII)V"⟩ : MethodName)) hown (mvT hZ (hw _ (own_w 62 rfl))) (mvT hZ (hw _ (own_w 63 rfl))) (mvT hZ (hw _ (own_w 60 rfl))) (mvT hZ (hw _ (own_w 64 rfl))) (by decide) (backOf (W := 0) (rms1 l Z a0 hw [] a1 k x0 h0 n0 Z0 A ga) hZ (hw _ (own_w 64 rfl)) (hw _ (own_w 60 rfl)) (by decide) (by decide)) (g := (mkF m 73 #[.val (.ref a1), .val (.int (0 : Int32)), .val (.int (0 : Int32)), .val (.int (1 : Int32)), .val (.int (1 : Int32)), .unset, .unset] [(.int (1 : Int32)), (.int (0 : Int32)), (.int (0 : Int32)), (.ref a1), .null])) rfl (by rw [hml]; rfl) (argsL := [.null, (.ref a1), (.int (0 : Int32)), (.int (0 : Int32)), (.int (1 : Int32))]) (rest := []) (lenOf pd_7 rfl) rfl (by show 2 * 0 + _ ≤ _; exact Nat.le_of_eq rfl) (hb hby d12_73) (fun _ _ => ⟨rfl, e0, (by decide : 0 + 0 ≤ _), (by decide : 0 + 0 ≤ _)⟩)
  dsimp only [Pt.U, Pt.locs, Pt.cells, Pt.slots] at X1 lq1 yq1 zq1 st1 hQ1
  subst lq1 yq1 zq1
  obtain ⟨rfl, N1q, KC1, u1⟩ := hQ1
  have N1 := Fr.app N0 N1q
  have Z1 : n0 ≤ T1.heap.size := Nat.le_trans Z0 KC1.1
  have K1 : Keep h0 T1.heap [a1] := (Keep.refl h0 [a1]).trans KC1 (allS (Or.inl (own_w 0 rfl)) all0)
  obtain ⟨y1_0, AV1, so1, pm1⟩ := id u1
  obtain ⟨fs, hr, hrun, hended, hW, hsame⟩ := X1.leave (v := none) (fun _ => rfl) (BodyLoose.notSynchronized Bd)
  refine ⟨_, _, pre0 _ ?_, hrun, hended, _, _, rfl, ?_, ⟨_, rfl⟩, hW, hsame.mono (by decide) (by decide)⟩
  · show Steps p.tables e below (s₁.setTop (mkF m 0 #[.val (.ref a1), .val (.int (0 : Int32)), .val (.int (0 : Int32)), .val (.int (1 : Int32)), .unset, .unset, .unset] [])) _
    refine XS.iloadN X0.here hx rfl (hb hby d12_0) rfl ?_
    refine XS.iloadN X0.here hx rfl (hb hby d12_1) rfl ?_
    refine XS.isub X0.here hx rfl (hb hby d12_2) rfl ?_
    refine XS.istore X0.here hx rfl (hb hby d12_3) rfl (l' := #[.val (.ref a1), .val (.int (0 : Int32)), .val (.int (0 : Int32)), .val (.int (1 : Int32)), .val (.int (1 : Int32)), .unset, .unset]) rfl ?_
    refine XS.iloadN X0.here hx rfl (hb hby d12_5) rfl ?_
    refine XS.iconst X0.here hx rfl (hb hby d12_6) ?_
    refine XS.icmpYes X0.here hx rfl (pc0 := 7) (pc' := 68) rfl (hb hby d12_7) rfl (flt (by decide)).2.2.2 (by decide) (by decide) ?_
    refine XS.aconstNull X0.here hx rfl (hb hby d12_68) ?_
    refine XS.aloadN X0.here hx rfl (hb hby d12_69) rfl rfl ?_
    refine XS.iconst X0.here hx rfl (hb hby d12_70) ?_
    refine XS.iloadN X0.here hx rfl (hb hby d12_71) rfl ?_
    refine XS.iloadN X0.here hx rfl (hb hby d12_72) rfl ?_
    refine st1 _ ?_
    show Steps p.tables e below (T1.setTop (mkF m 76 #[.val (.ref a1), .val (.int (0 : Int32)), .val (.int (0 : Int32)), .val (.int (1 : Int32)), .val (.int (1 : Int32)), .unset, .unset] [])) _
    exact X1.returnOut hx Bd.returns (hb hby d12_76) hr
  · show Qrmd1 Z a1 k x0 h0 n0 _ T1.heap _
    exact ⟨rfl, N1, K1, u1⟩
theorem pd_8 : parseMethodDescriptor "([JIII)V" = some ⟨[(.array .long), .int, .int, .int], none⟩ := by decide +kernel
theorem d11_0 : decode jdk_65_method_4_code 0 = .ok (.aload_n 0, 1) := by decide +kernel
theorem d11_1 : decode jdk_65_method_4_code 1 = .ok (.iconst 0, 1) := by decide +kernel
theorem d11_2 : decode jdk_65_method_4_code 2 = .ok (.iconst 0, 1) := by decide +kernel
theorem d11_3 : decode jdk_65_method_4_code 3 = .ok (.aload_n 0, 1) := by decide +kernel
theorem d11_4 : decode jdk_65_method_4_code 4 = .ok (.arraylength, 1) := by decide +kernel
theorem d11_5 : decode jdk_65_method_4_code 5 = .ok (.invokestatic 19, 3) := by decide +kernel
theorem d11_8 : decode jdk_65_method_4_code 8 = .ok (.return_, 1) := by decide +kernel
theorem pn_11 : plainName "java/util/Arrays" = true := by first | (simp [plainName, overriddenIn]; done) | decide +kernel
theorem ef_rma1 (m : MethodId) (a1 : Addr) : entryFrame m #[(.ref a1)] 1 = mkF m 0 #[.val (.ref a1)] [] := by first | (simp [entryFrame, mkF, argsToLocals, Value.category]; done) | rfl
def Qrma1 (Z : State) (a1 : Addr) (k : ClassId) (x0 : Int64) (h0 : Heap) (n0 : Nat) (v : Option Value) (h : Heap) (L : List Loc) : Prop := v = none ∧ Fr n0 L ∧ Keep h0 h [a1] ∧ ∃ y0 : Int64, Arv Z h a1 k .long (1 : Int32) [.long y0] (.long (0 : Int64)) ∧ (True) ∧ ((y0 = x0))
set_option maxRecDepth 65536 in
set_option maxHeartbeats 40000000 in
theorem rma1 (l : Launch) (Z : State) (a0 : Array Value) (hw : ∀ d ∈ tables_1, d.before a0 Z = true) (ws : List Jvm.Cond) (a1 : Addr) (k : ClassId) (x0 : Int64) (h0 : Heap) (n0 : Nat) (Z0 : n0 ≤ h0.size) (A : Arv Z h0 a1 k .long (1 : Int32) [.long x0] (.long (0 : Int64))) (ga : n0 ≤ a1) :
    MetFree l (⟨"java/util/Arrays", "sort", "([J)V"⟩ : MethodName) (head1 (Jvm.Cond.code (⟨"java/util/Arrays", "sort", "([J)V"⟩ : MethodName) jdk_65_method_4_code 1 none :: ws) ({ frames := 3, cells := 0, slots := 0, locals := 72 } : Room)) (fun a U => a = #[(.ref a1)] ∧ Z.Warmed39 U.vm ∧ U.heap = h0) (fun _ _ _ _ _ => True) (fun _ U o U' => ∃ v L, o = .returned v ∧ Qrma1 Z a1 k x0 h0 n0 v U'.heap L ∧ FrameEnd U o U' L ({ frames := 3, cells := 0, slots := 0, locals := 72 } : Room).cells ({ frames := 3, cells := 0, slots := 0, locals := 72 } : Room).slots) := by
  refine MetFree.of_bodySF (plainFor_of_name pn_11) hisR ?_
  intro p e s m args below meth c s₁ Bd hml0 hP hK
  obtain ⟨rfl, hZ, hh⟩ := hP
  have hx := Bd.exec
  have hby := Bd.bytes
  have hml : c.maxLocals = 1 := hml0
  have hown : s.vm.findClass "java/util/Arrays" = some m.cls := findClass_of_methodNamed Bd.named
  have hnm := (name_of_methodNamed Bd.named Bd.method).1
  have X0 : Stand p l e ({ frames := 3, cells := 0, slots := 0, locals := 72 } : Room) s m #[(.ref a1)] below meth c s₁ [] 0 0 := Stand.of_body Bd
  have e0 : s₁.heap = h0 := by rw [← hh, Bd.state]; rfl
  have N0 := Fr.nil n0
  have pre0 : ∀ t, Steps p.tables e below (s₁.setTop (mkF m 0 #[.val (.ref a1)] [])) t → Steps p.tables e below (s₁.setTop (entryFrame m #[(.ref a1)] 1)) t := fun t k => castTop (ef_rma1 m a1) k
  obtain ⟨cl1, Ar1, qk1, Sz1, Nn1, Hh1, Gg1⟩ := id (A)
  obtain ⟨_, _, ⟨T2, Lq2, kq2, nq2⟩, -, X2, ⟨Lc2, hQ2, lq2, yq2, zq2⟩, st2⟩ := Jvm.LawKit.callS X0 hx (y := (⟨"java/util/DualPivotQuicksort", "sort", "([JIII)V"⟩ : MethodName)) hown (mvT hZ (hw _ (own_w 58 rfl))) (mvT hZ (hw _ (own_w 59 rfl))) (mvT hZ (hw _ (own_w 60 rfl))) (mvT hZ (hw _ (own_w 61 rfl))) (by decide) (backOf (W := 0) (rmd1 l Z a0 hw [] a1 k x0 h0 n0 Z0 A ga) hZ (hw _ (own_w 61 rfl)) (hw _ (own_w 60 rfl)) (by decide) (by decide)) (g := (mkF m 5 #[.val (.ref a1)] [(.int (1 : Int32)), (.int (0 : Int32)), (.int (0 : Int32)), (.ref a1)])) rfl (by rw [hml]; rfl) (argsL := [(.ref a1), (.int (0 : Int32)), (.int (0 : Int32)), (.int (1 : Int32))]) (rest := []) (lenOf pd_8 rfl) rfl (by show 2 * 0 + _ ≤ _; exact Nat.le_of_eq rfl) (hb hby d11_5) (fun _ _ => ⟨rfl, e0, (by decide : 0 + 0 ≤ _), (by decide : 0 + 0 ≤ _)⟩)
  dsimp only [Pt.U, Pt.locs, Pt.cells, Pt.slots] at X2 lq2 yq2 zq2 st2 hQ2
  subst lq2 yq2 zq2
  obtain ⟨rfl, N2q, KC2, u2⟩ := hQ2
  have N2 := Fr.app N0 N2q
  have Z2 : n0 ≤ T2.heap.size := Nat.le_trans Z0 KC2.1
  have K2 : Keep h0 T2.heap [a1] := (Keep.refl h0 [a1]).trans KC2 (allS (Or.inl (own_w 0 rfl)) all0)
  obtain ⟨y2_0, AV2, so2, pm2⟩ := id u2
  obtain ⟨fs, hr, hrun, hended, hW, hsame⟩ := X2.leave (v := none) (fun _ => rfl) (BodyLoose.notSynchronized Bd)
  refine ⟨_, _, pre0 _ ?_, hrun, hended, _, _, rfl, ?_, ⟨_, rfl⟩, hW, hsame.mono (by decide) (by decide)⟩
  · show Steps p.tables e below (s₁.setTop (mkF m 0 #[.val (.ref a1)] [])) _
    refine XS.aloadN X0.here hx rfl (hb hby d11_0) rfl rfl ?_
    refine XS.iconst X0.here hx rfl (hb hby d11_1) ?_
    refine XS.iconst X0.here hx rfl (hb hby d11_2) ?_
    refine XS.aloadN X0.here hx rfl (hb hby d11_3) rfl rfl ?_
    refine X0.arraylength hx (by rw [e0]; exact Ar1.1) (State.isArrayOf_alike hZ.alike Ar1.2.1) (g := (mkF m 4 #[.val (.ref a1)] [(.ref a1), (.int (0 : Int32)), (.int (0 : Int32)), (.ref a1)])) rfl rfl (hb hby d11_4) _ ?_
    rw [len_of Sz1 Nn1]
    show Steps p.tables e below (s₁.setTop (mkF m 5 #[.val (.ref a1)] [(.int (1 : Int32)), (.int (0 : Int32)), (.int (0 : Int32)), (.ref a1)])) _
    refine st2 _ ?_
    show Steps p.tables e below (T2.setTop (mkF m 8 #[.val (.ref a1)] [])) _
    exact X2.returnOut hx Bd.returns (hb hby d11_8) hr
  · show Qrma1 Z a1 k x0 h0 n0 _ T2.heap _
    exact ⟨rfl, N2, K2, u2⟩
theorem d14_12 : decode jdk_2529_method_15_code 12 = .ok (.aload_n 0, 1) := by decide +kernel
theorem d14_13 : decode jdk_2529_method_15_code 13 = .ok (.iload 4, 2) := by decide +kernel
theorem d14_15 : decode jdk_2529_method_15_code 15 = .ok (.dup, 1) := by decide +kernel
theorem d14_16 : decode jdk_2529_method_15_code 16 = .ok (.istore_n 3, 1) := by decide +kernel
theorem d14_17 : decode jdk_2529_method_15_code 17 = .ok (.laload, 1) := by decide +kernel
theorem d14_18 : decode jdk_2529_method_15_code 18 = .ok (.lstore 5, 2) := by decide +kernel
theorem d14_20 : decode jdk_2529_method_15_code 20 = .ok (.lload 5, 2) := by decide +kernel
theorem d14_22 : decode jdk_2529_method_15_code 22 = .ok (.aload_n 0, 1) := by decide +kernel
theorem d14_23 : decode jdk_2529_method_15_code 23 = .ok (.iload_n 3, 1) := by decide +kernel
theorem d14_24 : decode jdk_2529_method_15_code 24 = .ok (.iconst 1, 1) := by decide +kernel
theorem d14_25 : decode jdk_2529_method_15_code 25 = .ok (.isub, 1) := by decide +kernel
theorem d14_26 : decode jdk_2529_method_15_code 26 = .ok (.laload, 1) := by decide +kernel
theorem d14_27 : decode jdk_2529_method_15_code 27 = .ok (.lcmp, 1) := by decide +kernel
theorem d14_28 : decode jdk_2529_method_15_code 28 = .ok (.ifCond .ge 38, 3) := by decide +kernel
theorem d14_31 : decode jdk_2529_method_15_code 31 = .ok (.iinc 3 (-1), 3) := by decide +kernel
theorem d14_34 : decode jdk_2529_method_15_code 34 = .ok (.iload_n 3, 1) := by decide +kernel
theorem d14_35 : decode jdk_2529_method_15_code 35 = .ok (.iload_n 1, 1) := by decide +kernel
theorem d14_36 : decode jdk_2529_method_15_code 36 = .ok (.if_icmp .lt 23, 3) := by decide +kernel
theorem d14_39 : decode jdk_2529_method_15_code 39 = .ok (.lload 5, 2) := by decide +kernel
theorem d14_41 : decode jdk_2529_method_15_code 41 = .ok (.aload_n 0, 1) := by decide +kernel
theorem d14_42 : decode jdk_2529_method_15_code 42 = .ok (.iload_n 3, 1) := by decide +kernel
theorem d14_43 : decode jdk_2529_method_15_code 43 = .ok (.laload, 1) := by decide +kernel
theorem d14_44 : decode jdk_2529_method_15_code 44 = .ok (.lcmp, 1) := by decide +kernel
theorem d14_45 : decode jdk_2529_method_15_code 45 = .ok (.ifCond .ge 14, 3) := by decide +kernel
theorem d14_48 : decode jdk_2529_method_15_code 48 = .ok (.aload_n 0, 1) := by decide +kernel
theorem d14_49 : decode jdk_2529_method_15_code 49 = .ok (.iload_n 3, 1) := by decide +kernel
theorem d14_50 : decode jdk_2529_method_15_code 50 = .ok (.iconst 1, 1) := by decide +kernel
theorem d14_51 : decode jdk_2529_method_15_code 51 = .ok (.iadd, 1) := by decide +kernel
theorem d14_52 : decode jdk_2529_method_15_code 52 = .ok (.aload_n 0, 1) := by decide +kernel
theorem d14_53 : decode jdk_2529_method_15_code 53 = .ok (.iload_n 3, 1) := by decide +kernel
theorem d14_54 : decode jdk_2529_method_15_code 54 = .ok (.laload, 1) := by decide +kernel
theorem d14_55 : decode jdk_2529_method_15_code 55 = .ok (.lastore, 1) := by decide +kernel
theorem d14_56 : decode jdk_2529_method_15_code 56 = .ok (.goto (-25), 3) := by decide +kernel
theorem d14_59 : decode jdk_2529_method_15_code 59 = .ok (.aload_n 0, 1) := by decide +kernel
theorem d14_60 : decode jdk_2529_method_15_code 60 = .ok (.iload_n 3, 1) := by decide +kernel
theorem d14_61 : decode jdk_2529_method_15_code 61 = .ok (.iconst 1, 1) := by decide +kernel
theorem d14_62 : decode jdk_2529_method_15_code 62 = .ok (.iadd, 1) := by decide +kernel
theorem d14_63 : decode jdk_2529_method_15_code 63 = .ok (.lload 5, 2) := by decide +kernel
theorem d14_65 : decode jdk_2529_method_15_code 65 = .ok (.lastore, 1) := by decide +kernel
theorem d14_66 : decode jdk_2529_method_15_code 66 = .ok (.goto (-63), 3) := by decide +kernel
theorem ef_rmi2 (m : MethodId) (a1 : Addr) : entryFrame m #[(.ref a1), (.int (0 : Int32)), (.int (2 : Int32))] 7 = mkF m 0 #[.val (.ref a1), .val (.int (0 : Int32)), .val (.int (2 : Int32)), .unset, .unset, .unset, .unset] [] := by first | (simp [entryFrame, mkF, argsToLocals, Value.category]; done) | rfl
def Qrmi2 (Z : State) (a1 : Addr) (k : ClassId) (x0 : Int64) (x1 : Int64) (h0 : Heap) (n0 : Nat) (v : Option Value) (h : Heap) (L : List Loc) : Prop := v = none ∧ Fr n0 L ∧ Keep h0 h [a1] ∧ ∃ y0 y1 : Int64, Arv Z h a1 k .long (2 : Int32) [.long y0, .long y1] (.long (0 : Int64)) ∧ (¬ y1 < y0) ∧ ((y0 = x0 ∧ y1 = x1) ∨ (y0 = x1 ∧ y1 = x0))
set_option maxRecDepth 65536 in
set_option maxHeartbeats 40000000 in
theorem rmi2 (l : Launch) (Z : State) (a0 : Array Value) (hw : ∀ d ∈ tables_1, d.before a0 Z = true) (ws : List Jvm.Cond) (a1 : Addr) (k : ClassId) (x0 : Int64) (x1 : Int64) (h0 : Heap) (n0 : Nat) (Z0 : n0 ≤ h0.size) (A : Arv Z h0 a1 k .long (2 : Int32) [.long x0, .long x1] (.long (0 : Int64))) (ga : n0 ≤ a1) :
    MetFree l (⟨"java/util/DualPivotQuicksort", "insertionSort", "([JII)V"⟩ : MethodName) (head1 (Jvm.Cond.code (⟨"java/util/DualPivotQuicksort", "insertionSort", "([JII)V"⟩ : MethodName) jdk_2529_method_15_code 7 none :: ws) ({ frames := 0, cells := 0, slots := 0, locals := 0 } : Room)) (fun a U => a = #[(.ref a1), (.int (0 : Int32)), (.int (2 : Int32))] ∧ Z.Warmed39 U.vm ∧ U.heap = h0) (fun _ _ _ _ _ => True) (fun _ U o U' => ∃ v L, o = .returned v ∧ Qrmi2 Z a1 k x0 x1 h0 n0 v U'.heap L ∧ FrameEnd U o U' L ({ frames := 0, cells := 0, slots := 0, locals := 0 } : Room).cells ({ frames := 0, cells := 0, slots := 0, locals := 0 } : Room).slots) := by
  refine MetFree.of_bodySF (plainFor_of_name pn_14) hisR ?_
  intro p e s m args below meth c s₁ Bd hml0 hP hK
  obtain ⟨rfl, hZ, hh⟩ := hP
  have hx := Bd.exec
  have hby := Bd.bytes
  have hml : c.maxLocals = 7 := hml0
  have hown : s.vm.findClass "java/util/DualPivotQuicksort" = some m.cls := findClass_of_methodNamed Bd.named
  have hnm := (name_of_methodNamed Bd.named Bd.method).1
  have X0 : Stand p l e ({ frames := 0, cells := 0, slots := 0, locals := 0 } : Room) s m #[(.ref a1), (.int (0 : Int32)), (.int (2 : Int32))] below meth c s₁ [] 0 0 := Stand.of_body Bd
  have e0 : s₁.heap = h0 := by rw [← hh, Bd.state]; rfl
  have N0 := Fr.nil n0
  have pre0 : ∀ t, Steps p.tables e below (s₁.setTop (mkF m 0 #[.val (.ref a1), .val (.int (0 : Int32)), .val (.int (2 : Int32)), .unset, .unset, .unset, .unset] [])) t → Steps p.tables e below (s₁.setTop (entryFrame m #[(.ref a1), (.int (0 : Int32)), (.int (2 : Int32))] 7)) t := fun t k => castTop (ef_rmi2 m a1) k
  obtain ⟨cl1, Ar1, qk1, Sz1, Nn1, Hh1, Gg1⟩ := id (A)
  have hin2 : ¬ ((1 : Int32) < 0 ∨ cl1.slots.size ≤ ((1 : Int32)).toNatClampNeg) := inb_of Sz1 ⟨by decide, by decide⟩
  have hat2 : cl1.slots[((1 : Int32)).toNatClampNeg]? = some (.long x1) := Has.at Hh1 hin2 rfl
  obtain ⟨cl3, Ar3, qk3, Sz3, Nn3, Hh3, Gg3⟩ := id (A)
  have hin4 : ¬ ((0 : Int32) < 0 ∨ cl3.slots.size ≤ ((0 : Int32)).toNatClampNeg) := inb_of Sz3 ⟨by decide, by decide⟩
  have hat4 : cl3.slots[((0 : Int32)).toNatClampNeg]? = some (.long x0) := Has.at Hh3 hin4 rfl
  by_cases hc28 : x1 < x0
  · obtain ⟨cl5, Ar5, qk5, Sz5, Nn5, Hh5, Gg5⟩ := id (A)
    have hin6 : ¬ ((0 : Int32) < 0 ∨ cl5.slots.size ≤ ((0 : Int32)).toNatClampNeg) := inb_of Sz5 ⟨by decide, by decide⟩
    have hat6 : cl5.slots[((0 : Int32)).toNatClampNeg]? = some (.long x0) := Has.at Hh5 hin6 rfl
    obtain ⟨cl7, Ar7, qk7, Sz7, Nn7, Hh7, Gg7⟩ := id (A)
    have hin8 : ¬ ((0 : Int32) < 0 ∨ cl7.slots.size ≤ ((0 : Int32)).toNatClampNeg) := inb_of Sz7 ⟨by decide, by decide⟩
    have hat8 : cl7.slots[((0 : Int32)).toNatClampNeg]? = some (.long x0) := Has.at Hh7 hin8 rfl
    obtain ⟨cl9, Ar9, qk9, Sz9, Nn9, Hh9, Gg9⟩ := id (A)
    have hin10 : ¬ ((1 : Int32) < 0 ∨ cl9.slots.size ≤ ((1 : Int32)).toNatClampNeg) := inb_of Sz9 ⟨by decide, by decide⟩
    obtain ⟨T10, h10, X10, e10, W10, st10⟩ := stJ X0 hx hZ e0 Ar9 (j := (1 : Int32)) hin10  (g := (mkF m 55 #[.val (.ref a1), .val (.int (0 : Int32)), .val (.int (2 : Int32)), .val (.int (0 : Int32)), .val (.int (1 : Int32)), .val (.long x1), .second] [(.long x0), (.int (1 : Int32)), (.ref a1)])) rfl rfl (hb hby d14_55)
    have N10 := Fr.snoc X10 N0 ga
    have Z10 : n0 ≤ h10.size := by rw [W10.size]; exact Z0
    have K10 : Keep h0 h10 [a1] := (Keep.refl h0 [a1]).wr W10 (Or.inl (own_w 0 rfl))
    have V10 : Arv Z h10 a1 k .long (2 : Int32) [(.long x0), (.long x0)] (.long (0 : Int64)) := Arv.set Ar9 qk9 Sz9 Nn9 Hh9 Gg9 rfl W10 1 rfl (Nat.le_of_ble_eq_true rfl)
    obtain ⟨cl11, Ar11, qk11, Sz11, Nn11, Hh11, Gg11⟩ := id (V10)
    have hin12 : ¬ ((0 : Int32) < 0 ∨ cl11.slots.size ≤ ((0 : Int32)).toNatClampNeg) := inb_of Sz11 ⟨by decide, by decide⟩
    obtain ⟨T12, h12, X12, e12, W12, st12⟩ := stJ X10 hx hZ e10 Ar11 (j := (0 : Int32)) hin12  (g := (mkF m 65 #[.val (.ref a1), .val (.int (0 : Int32)), .val (.int (2 : Int32)), .val (.int (-1 : Int32)), .val (.int (1 : Int32)), .val (.long x1), .second] [(.long x1), (.int (0 : Int32)), (.ref a1)])) rfl rfl (hb hby d14_65)
    have N12 := Fr.snoc X12 N10 ga
    have Z12 : n0 ≤ h12.size := by rw [W12.size]; exact Z10
    have K12 : Keep h0 h12 [a1] := K10.wr W12 (Or.inl (own_w 0 rfl))
    have V12 : Arv Z h12 a1 k .long (2 : Int32) [(.long x1), (.long x0)] (.long (0 : Int64)) := Arv.set Ar11 qk11 Sz11 Nn11 Hh11 Gg11 rfl W12 0 rfl (Nat.le_of_ble_eq_true rfl)
    obtain ⟨fs, hr, hrun, hended, hW, hsame⟩ := X12.leave (v := none) (fun _ => rfl) (BodyLoose.notSynchronized Bd)
    refine ⟨_, _, pre0 _ ?_, hrun, hended, _, _, rfl, ?_, ⟨_, rfl⟩, hW, hsame.mono (by decide) (by decide)⟩
    · show Steps p.tables e below (s₁.setTop (mkF m 0 #[.val (.ref a1), .val (.int (0 : Int32)), .val (.int (2 : Int32)), .unset, .unset, .unset, .unset] [])) _
      refine XS.iloadN X0.here hx rfl (hb hby d14_0) rfl ?_
      refine XS.istore X0.here hx rfl (hb hby d14_1) rfl (l' := #[.val (.ref a1), .val (.int (0 : Int32)), .val (.int (2 : Int32)), .unset, .val (.int (0 : Int32)), .unset, .unset]) rfl ?_
      refine XS.iinc X0.here hx rfl (hb hby d14_3) rfl (l' := #[.val (.ref a1), .val (.int (0 : Int32)), .val (.int (2 : Int32)), .unset, .val (.int (1 : Int32)), .unset, .unset]) rfl ?_
      refine XS.iload X0.here hx rfl (hb hby d14_6) rfl ?_
      refine XS.iloadN X0.here hx rfl (hb hby d14_8) rfl ?_
      refine XS.icmpNo X0.here hx rfl (hb hby d14_9) rfl (tlt (by decide)).2.1 ?_
      refine XS.aloadN X0.here hx rfl (hb hby d14_12) rfl rfl ?_
      refine XS.iload X0.here hx rfl (hb hby d14_13) rfl ?_
      refine XS.dup X0.here hx rfl (hb hby d14_15) rfl rfl ?_
      refine XS.istoreN X0.here hx rfl (hb hby d14_16) rfl (l' := #[.val (.ref a1), .val (.int (0 : Int32)), .val (.int (2 : Int32)), .val (.int (1 : Int32)), .val (.int (1 : Int32)), .unset, .unset]) rfl ?_
      refine X0.laload hx (j := (1 : Int32)) (v := (.long x1)) (by rw [e0]; exact Ar1.1) (State.isArrayOf_alike hZ.alike Ar1.2.1) Ar1.2.2 hin2 hat2 (g := (mkF m 17 #[.val (.ref a1), .val (.int (0 : Int32)), .val (.int (2 : Int32)), .val (.int (1 : Int32)), .val (.int (1 : Int32)), .unset, .unset] [(.int (1 : Int32)), (.ref a1)])) rfl rfl (hb hby d14_17) _ ?_
      refine XS.lstore X0.here hx rfl (hb hby d14_18) rfl (l' := #[.val (.ref a1), .val (.int (0 : Int32)), .val (.int (2 : Int32)), .val (.int (1 : Int32)), .val (.int (1 : Int32)), .val (.long x1), .second]) rfl ?_
      refine XS.lload X0.here hx rfl (hb hby d14_20) rfl ?_
      refine XS.aloadN X0.here hx rfl (hb hby d14_22) rfl rfl ?_
      refine XS.iloadN X0.here hx rfl (hb hby d14_23) rfl ?_
      refine XS.iconst X0.here hx rfl (hb hby d14_24) ?_
      refine XS.isub X0.here hx rfl (hb hby d14_25) rfl ?_
      refine X0.laload hx (j := (0 : Int32)) (v := (.long x0)) (by rw [e0]; exact Ar3.1) (State.isArrayOf_alike hZ.alike Ar3.2.1) Ar3.2.2 hin4 hat4 (g := (mkF m 26 #[.val (.ref a1), .val (.int (0 : Int32)), .val (.int (2 : Int32)), .val (.int (1 : Int32)), .val (.int (1 : Int32)), .val (.long x1), .second] [(.int (0 : Int32)), (.ref a1), (.long x1)])) rfl rfl (hb hby d14_26) _ ?_
      refine XS.lcmp X0.here hx rfl (hb hby d14_27) rfl ?_
      refine XS.ifNo X0.here hx rfl (hb hby d14_28) rfl ((if0 _ _).trans (tlt (own_lclt hc28)).2.1) ?_
      refine XS.iinc X0.here hx rfl (hb hby d14_31) rfl (l' := #[.val (.ref a1), .val (.int (0 : Int32)), .val (.int (2 : Int32)), .val (.int (0 : Int32)), .val (.int (1 : Int32)), .val (.long x1), .second]) rfl ?_
      refine XS.iloadN X0.here hx rfl (hb hby d14_34) rfl ?_
      refine XS.iloadN X0.here hx rfl (hb hby d14_35) rfl ?_
      refine XS.icmpNo X0.here hx rfl (hb hby d14_36) rfl (flt (by decide)).1 ?_
      refine XS.lload X0.here hx rfl (hb hby d14_39) rfl ?_
      refine XS.aloadN X0.here hx rfl (hb hby d14_41) rfl rfl ?_
      refine XS.iloadN X0.here hx rfl (hb hby d14_42) rfl ?_
      refine X0.laload hx (j := (0 : Int32)) (v := (.long x0)) (by rw [e0]; exact Ar5.1) (State.isArrayOf_alike hZ.alike Ar5.2.1) Ar5.2.2 hin6 hat6 (g := (mkF m 43 #[.val (.ref a1), .val (.int (0 : Int32)), .val (.int (2 : Int32)), .val (.int (0 : Int32)), .val (.int (1 : Int32)), .val (.long x1), .second] [(.int (0 : Int32)), (.ref a1), (.long x1)])) rfl rfl (hb hby d14_43) _ ?_
      refine XS.lcmp X0.here hx rfl (hb hby d14_44) rfl ?_
      refine XS.ifNo X0.here hx rfl (hb hby d14_45) rfl ((if0 _ _).trans (tlt (own_lclt hc28)).2.1) ?_
      refine XS.aloadN X0.here hx rfl (hb hby d14_48) rfl rfl ?_
      refine XS.iloadN X0.here hx rfl (hb hby d14_49) rfl ?_
      refine XS.iconst X0.here hx rfl (hb hby d14_50) ?_
      refine XS.iadd X0.here hx rfl (hb hby d14_51) rfl ?_
      refine XS.aloadN X0.here hx rfl (hb hby d14_52) rfl rfl ?_
      refine XS.iloadN X0.here hx rfl (hb hby d14_53) rfl ?_
      refine X0.laload hx (j := (0 : Int32)) (v := (.long x0)) (by rw [e0]; exact Ar7.1) (State.isArrayOf_alike hZ.alike Ar7.2.1) Ar7.2.2 hin8 hat8 (g := (mkF m 54 #[.val (.ref a1), .val (.int (0 : Int32)), .val (.int (2 : Int32)), .val (.int (0 : Int32)), .val (.int (1 : Int32)), .val (.long x1), .second] [(.int (0 : Int32)), (.ref a1), (.int (1 : Int32)), (.ref a1)])) rfl rfl (hb hby d14_54) _ ?_
      refine st10 _ ?_
      refine XS.goto X10.here hx rfl (pc0 := 56) (pc' := 31) rfl (hb hby d14_56) (by decide) (by decide) ?_
      refine XS.iinc X10.here hx rfl (hb hby d14_31) rfl (l' := #[.val (.ref a1), .val (.int (0 : Int32)), .val (.int (2 : Int32)), .val (.int (-1 : Int32)), .val (.int (1 : Int32)), .val (.long x1), .second]) rfl ?_
      show Steps p.tables e below (T10.setTop (mkF m 34 #[.val (.ref a1), .val (.int (0 : Int32)), .val (.int (2 : Int32)), .val (.int (-1 : Int32)), .val (.int (1 : Int32)), .val (.long x1), .second] [])) _
      refine XS.iloadN X10.here hx rfl (hb hby d14_34) rfl ?_
      refine XS.iloadN X10.here hx rfl (hb hby d14_35) rfl ?_
      refine XS.icmpYes X10.here hx rfl (pc0 := 36) (pc' := 59) rfl (hb hby d14_36) rfl (tlt (by decide)).1 (by decide) (by decide) ?_
      refine XS.aloadN X10.here hx rfl (hb hby d14_59) rfl rfl ?_
      refine XS.iloadN X10.here hx rfl (hb hby d14_60) rfl ?_
      refine XS.iconst X10.here hx rfl (hb hby d14_61) ?_
      refine XS.iadd X10.here hx rfl (hb hby d14_62) rfl ?_
      refine XS.lload X10.here hx rfl (hb hby d14_63) rfl ?_
      refine st12 _ ?_
      refine XS.goto X12.here hx rfl (pc0 := 66) (pc' := 3) rfl (hb hby d14_66) (by decide) (by decide) ?_
      refine XS.iinc X12.here hx rfl (hb hby d14_3) rfl (l' := #[.val (.ref a1), .val (.int (0 : Int32)), .val (.int (2 : Int32)), .val (.int (-1 : Int32)), .val (.int (2 : Int32)), .val (.long x1), .second]) rfl ?_
      refine XS.iload X12.here hx rfl (hb hby d14_6) rfl ?_
      refine XS.iloadN X12.here hx rfl (hb hby d14_8) rfl ?_
      refine XS.icmpYes X12.here hx rfl (pc0 := 9) (pc' := 69) rfl (hb hby d14_9) rfl (flt (by decide)).2.1 (by decide) (by decide) ?_
      show Steps p.tables e below (T12.setTop (mkF m 69 #[.val (.ref a1), .val (.int (0 : Int32)), .val (.int (2 : Int32)), .val (.int (-1 : Int32)), .val (.int (2 : Int32)), .val (.long x1), .second] [])) _
      exact X12.returnOut hx Bd.returns (hb hby d14_69) hr
    · show Qrmi2 Z a1 k x0 x1 h0 n0 _ T12.heap _
      rw [e12]
      exact ⟨rfl, N12, K12, x1, x0, V12, (own_ltN hc28), (Or.inr ⟨rfl, rfl⟩)⟩
  · obtain ⟨fs, hr, hrun, hended, hW, hsame⟩ := X0.leave (v := none) (fun _ => rfl) (BodyLoose.notSynchronized Bd)
    refine ⟨_, _, pre0 _ ?_, hrun, hended, _, _, rfl, ?_, ⟨_, rfl⟩, hW, hsame.mono (by decide) (by decide)⟩
    · show Steps p.tables e below (s₁.setTop (mkF m 0 #[.val (.ref a1), .val (.int (0 : Int32)), .val (.int (2 : Int32)), .unset, .unset, .unset, .unset] [])) _
      refine XS.iloadN X0.here hx rfl (hb hby d14_0) rfl ?_
      refine XS.istore X0.here hx rfl (hb hby d14_1) rfl (l' := #[.val (.ref a1), .val (.int (0 : Int32)), .val (.int (2 : Int32)), .unset, .val (.int (0 : Int32)), .unset, .unset]) rfl ?_
      refine XS.iinc X0.here hx rfl (hb hby d14_3) rfl (l' := #[.val (.ref a1), .val (.int (0 : Int32)), .val (.int (2 : Int32)), .unset, .val (.int (1 : Int32)), .unset, .unset]) rfl ?_
      refine XS.iload X0.here hx rfl (hb hby d14_6) rfl ?_
      refine XS.iloadN X0.here hx rfl (hb hby d14_8) rfl ?_
      refine XS.icmpNo X0.here hx rfl (hb hby d14_9) rfl (tlt (by decide)).2.1 ?_
      refine XS.aloadN X0.here hx rfl (hb hby d14_12) rfl rfl ?_
      refine XS.iload X0.here hx rfl (hb hby d14_13) rfl ?_
      refine XS.dup X0.here hx rfl (hb hby d14_15) rfl rfl ?_
      refine XS.istoreN X0.here hx rfl (hb hby d14_16) rfl (l' := #[.val (.ref a1), .val (.int (0 : Int32)), .val (.int (2 : Int32)), .val (.int (1 : Int32)), .val (.int (1 : Int32)), .unset, .unset]) rfl ?_
      refine X0.laload hx (j := (1 : Int32)) (v := (.long x1)) (by rw [e0]; exact Ar1.1) (State.isArrayOf_alike hZ.alike Ar1.2.1) Ar1.2.2 hin2 hat2 (g := (mkF m 17 #[.val (.ref a1), .val (.int (0 : Int32)), .val (.int (2 : Int32)), .val (.int (1 : Int32)), .val (.int (1 : Int32)), .unset, .unset] [(.int (1 : Int32)), (.ref a1)])) rfl rfl (hb hby d14_17) _ ?_
      refine XS.lstore X0.here hx rfl (hb hby d14_18) rfl (l' := #[.val (.ref a1), .val (.int (0 : Int32)), .val (.int (2 : Int32)), .val (.int (1 : Int32)), .val (.int (1 : Int32)), .val (.long x1), .second]) rfl ?_
      refine XS.lload X0.here hx rfl (hb hby d14_20) rfl ?_
      refine XS.aloadN X0.here hx rfl (hb hby d14_22) rfl rfl ?_
      refine XS.iloadN X0.here hx rfl (hb hby d14_23) rfl ?_
      refine XS.iconst X0.here hx rfl (hb hby d14_24) ?_
      refine XS.isub X0.here hx rfl (hb hby d14_25) rfl ?_
      refine X0.laload hx (j := (0 : Int32)) (v := (.long x0)) (by rw [e0]; exact Ar3.1) (State.isArrayOf_alike hZ.alike Ar3.2.1) Ar3.2.2 hin4 hat4 (g := (mkF m 26 #[.val (.ref a1), .val (.int (0 : Int32)), .val (.int (2 : Int32)), .val (.int (1 : Int32)), .val (.int (1 : Int32)), .val (.long x1), .second] [(.int (0 : Int32)), (.ref a1), (.long x1)])) rfl rfl (hb hby d14_26) _ ?_
      refine XS.lcmp X0.here hx rfl (hb hby d14_27) rfl ?_
      refine XS.ifYes X0.here hx rfl (pc0 := 28) (pc' := 66) rfl (hb hby d14_28) rfl ((if0 _ _).trans (flt (own_lcnlt hc28)).2.1) (by decide) (by decide) ?_
      refine XS.goto X0.here hx rfl (pc0 := 66) (pc' := 3) rfl (hb hby d14_66) (by decide) (by decide) ?_
      refine XS.iinc X0.here hx rfl (hb hby d14_3) rfl (l' := #[.val (.ref a1), .val (.int (0 : Int32)), .val (.int (2 : Int32)), .val (.int (1 : Int32)), .val (.int (2 : Int32)), .val (.long x1), .second]) rfl ?_
      refine XS.iload X0.here hx rfl (hb hby d14_6) rfl ?_
      refine XS.iloadN X0.here hx rfl (hb hby d14_8) rfl ?_
      refine XS.icmpYes X0.here hx rfl (pc0 := 9) (pc' := 69) rfl (hb hby d14_9) rfl (flt (by decide)).2.1 (by decide) (by decide) ?_
      show Steps p.tables e below (s₁.setTop (mkF m 69 #[.val (.ref a1), .val (.int (0 : Int32)), .val (.int (2 : Int32)), .val (.int (1 : Int32)), .val (.int (2 : Int32)), .val (.long x1), .second] [])) _
      exact X0.returnOut hx Bd.returns (hb hby d14_69) hr
    · show Qrmi2 Z a1 k x0 x1 h0 n0 _ s₁.heap _
      rw [e0]
      exact ⟨rfl, N0, (Keep.refl h0 [a1]), x0, x1, A, hc28, (Or.inl ⟨rfl, rfl⟩)⟩
theorem ef_rms2 (m : MethodId) (a2 : Addr) : entryFrame m #[.null, (.ref a2), (.int (0 : Int32)), (.int (0 : Int32)), (.int (2 : Int32))] 25 = mkF m 0 #[.val .null, .val (.ref a2), .val (.int (0 : Int32)), .val (.int (0 : Int32)), .val (.int (2 : Int32)), .unset, .unset, .unset, .unset, .unset, .unset, .unset, .unset, .unset, .unset, .unset, .unset, .unset, .unset, .unset, .unset, .unset, .unset, .unset, .unset] [] := by first | (simp [entryFrame, mkF, argsToLocals, Value.category]; done) | rfl
def Qrms2 (Z : State) (a2 : Addr) (k : ClassId) (x0 : Int64) (x1 : Int64) (h0 : Heap) (n0 : Nat) (v : Option Value) (h : Heap) (L : List Loc) : Prop := v = none ∧ Fr n0 L ∧ Keep h0 h [a2] ∧ ∃ y0 y1 : Int64, Arv Z h a2 k .long (2 : Int32) [.long y0, .long y1] (.long (0 : Int64)) ∧ (¬ y1 < y0) ∧ ((y0 = x0 ∧ y1 = x1) ∨ (y0 = x1 ∧ y1 = x0))
set_option maxRecDepth 65536 in
set_option maxHeartbeats 40000000 in
theorem rms2 (l : Launch) (Z : State) (a0 : Array Value) (hw : ∀ d ∈ tables_1, d.before a0 Z = true) (ws : List Jvm.Cond) (a2 : Addr) (k : ClassId) (x0 : Int64) (x1 : Int64) (h0 : Heap) (n0 : Nat) (Z0 : n0 ≤ h0.size) (A : Arv Z h0 a2 k .long (2 : Int32) [.long x0, .long x1] (.long (0 : Int64))) (ga : n0 ≤ a2) :
    MetFree l (⟨"java/util/DualPivotQuicksort", "sort", "(Ljava/util/DualPivotQuicksort$Sorter;[JIII)V"⟩ : MethodName) (head1 (Jvm.Cond.code (⟨"java/util/DualPivotQuicksort", "sort", "(Ljava/util/DualPivotQuicksort$Sorter;[JIII)V"⟩ : MethodName) jdk_2529_method_13_code 25 none :: ws) ({ frames := 1, cells := 0, slots := 0, locals := 18 } : Room)) (fun a U => a = #[.null, (.ref a2), (.int (0 : Int32)), (.int (0 : Int32)), (.int (2 : Int32))] ∧ Z.Warmed39 U.vm ∧ U.heap = h0) (fun _ _ _ _ _ => True) (fun _ U o U' => ∃ v L, o = .returned v ∧ Qrms2 Z a2 k x0 x1 h0 n0 v U'.heap L ∧ FrameEnd U o U' L ({ frames := 1, cells := 0, slots := 0, locals := 18 } : Room).cells ({ frames := 1, cells := 0, slots := 0, locals := 18 } : Room).slots) := by
  refine MetFree.of_bodySF (plainFor_of_name pn_13) hisR ?_
  intro p e s m args below meth c s₁ Bd hml0 hP hK
  obtain ⟨rfl, hZ, hh⟩ := hP
  have hx := Bd.exec
  have hby := Bd.bytes
  have hml : c.maxLocals = 25 := hml0
  have hown : s.vm.findClass "java/util/DualPivotQuicksort" = some m.cls := findClass_of_methodNamed Bd.named
  have hnm := (name_of_methodNamed Bd.named Bd.method).1
  have X0 : Stand p l e ({ frames := 1, cells := 0, slots := 0, locals := 18 } : Room) s m #[.null, (.ref a2), (.int (0 : Int32)), (.int (0 : Int32)), (.int (2 : Int32))] below meth c s₁ [] 0 0 := Stand.of_body Bd
  have e0 : s₁.heap = h0 := by rw [← hh, Bd.state]; rfl
  have N0 := Fr.nil n0
  have pre0 : ∀ t, Steps p.tables e below (s₁.setTop (mkF m 0 #[.val .null, .val (.ref a2), .val (.int (0 : Int32)), .val (.int (0 : Int32)), .val (.int (2 : Int32)), .unset, .unset, .unset, .unset, .unset, .unset, .unset, .unset, .unset, .unset, .unset, .unset, .unset, .unset, .unset, .unset, .unset, .unset, .unset, .unset] [])) t → Steps p.tables e below (s₁.setTop (entryFrame m #[.null, (.ref a2), (.int (0 : Int32)), (.int (0 : Int32)), (.int (2 : Int32))] 25)) t := fun t k => castTop (ef_rms2 m a2) k
  obtain ⟨_, _, ⟨T1, Lq1, kq1, nq1⟩, -, X1, ⟨Lc1, hQ1, lq1, yq1, zq1⟩, st1⟩ := Jvm.LawKit.callS X0 hx (y := (⟨"java/util/DualPivotQuicksort", "insertionSort", "([JII)V"⟩ : MethodName)) hown (mvT hZ (hw _ (own_w 65 rfl))) (mvT hZ (hw _ (own_w 66 rfl))) (mvT hZ (hw _ (own_w 60 rfl))) (mvT hZ (hw _ (own_w 67 rfl))) (by decide) (backOf (W := 0) (rmi2 l Z a0 hw [] a2 k x0 x1 h0 n0 Z0 A ga) hZ (hw _ (own_w 67 rfl)) (hw _ (own_w 60 rfl)) (by decide) (by decide)) (g := (mkF m 57 #[.val .null, .val (.ref a2), .val (.int (0 : Int32)), .val (.int (0 : Int32)), .val (.int (2 : Int32)), .val (.int (1 : Int32)), .val (.int (2 : Int32)), .unset, .unset, .unset, .unset, .unset, .unset, .unset, .unset, .unset, .unset, .unset, .unset, .unset, .unset, .unset, .unset, .unset, .unset] [(.int (2 : Int32)), (.int (0 : Int32)), (.ref a2)])) rfl (by rw [hml]; rfl) (argsL := [(.ref a2), (.int (0 : Int32)), (.int (2 : Int32))]) (rest := []) (lenOf pd_6 rfl) rfl (by show 2 * 0 + _ ≤ _; exact Nat.le_of_eq rfl) (hb hby d13_57) (fun _ _ => ⟨rfl, e0, (by decide : 0 + 0 ≤ _), (by decide : 0 + 0 ≤ _)⟩)
  dsimp only [Pt.U, Pt.locs, Pt.cells, Pt.slots] at X1 lq1 yq1 zq1 st1 hQ1
  subst lq1 yq1 zq1
  obtain ⟨rfl, N1q, KC1, u1⟩ := hQ1
  have N1 := Fr.app N0 N1q
  have Z1 : n0 ≤ T1.heap.size := Nat.le_trans Z0 KC1.1
  have K1 : Keep h0 T1.heap [a2] := (Keep.refl h0 [a2]).trans KC1 (allS (Or.inl (own_w 0 rfl)) all0)
  obtain ⟨y1_0, y1_1, AV1, so1, pm1⟩ := id u1
  obtain ⟨fs, hr, hrun, hended, hW, hsame⟩ := X1.leave (v := none) (fun _ => rfl) (BodyLoose.notSynchronized Bd)
  refine ⟨_, _, pre0 _ ?_, hrun, hended, _, _, rfl, ?_, ⟨_, rfl⟩, hW, hsame.mono (by decide) (by decide)⟩
  · show Steps p.tables e below (s₁.setTop (mkF m 0 #[.val .null, .val (.ref a2), .val (.int (0 : Int32)), .val (.int (0 : Int32)), .val (.int (2 : Int32)), .unset, .unset, .unset, .unset, .unset, .unset, .unset, .unset, .unset, .unset, .unset, .unset, .unset, .unset, .unset, .unset, .unset, .unset, .unset, .unset] [])) _
    refine XS.iload X0.here hx rfl (hb hby d13_0) rfl ?_
    refine XS.iconst X0.here hx rfl (hb hby d13_2) ?_
    refine XS.isub X0.here hx rfl (hb hby d13_3) rfl ?_
    refine XS.istore X0.here hx rfl (hb hby d13_4) rfl (l' := #[.val .null, .val (.ref a2), .val (.int (0 : Int32)), .val (.int (0 : Int32)), .val (.int (2 : Int32)), .val (.int (1 : Int32)), .unset, .unset, .unset, .unset, .unset, .unset, .unset, .unset, .unset, .unset, .unset, .unset, .unset, .unset, .unset, .unset, .unset, .unset, .unset]) rfl ?_
    refine XS.iload X0.here hx rfl (hb hby d13_6) rfl ?_
    refine XS.iloadN X0.here hx rfl (hb hby d13_8) rfl ?_
    refine XS.isub X0.here hx rfl (hb hby d13_9) rfl ?_
    refine XS.istore X0.here hx rfl (hb hby d13_10) rfl (l' := #[.val .null, .val (.ref a2), .val (.int (0 : Int32)), .val (.int (0 : Int32)), .val (.int (2 : Int32)), .val (.int (1 : Int32)), .val (.int (2 : Int32)), .unset, .unset, .unset, .unset, .unset, .unset, .unset, .unset, .unset, .unset, .unset, .unset, .unset, .unset, .unset, .unset, .unset, .unset]) rfl ?_
    refine XS.iload X0.here hx rfl (hb hby d13_12) rfl ?_
    refine XS.bipush X0.here hx rfl (hb hby d13_14) ?_
    refine XS.iloadN X0.here hx rfl (hb hby d13_16) rfl ?_
    refine XS.iadd X0.here hx rfl (hb hby d13_17) rfl ?_
    refine XS.icmpNo X0.here hx rfl (hb hby d13_18) rfl (tlt (by decide)).2.1 ?_
    refine XS.iloadN X0.here hx rfl (hb hby d13_21) rfl ?_
    refine XS.iconst X0.here hx rfl (hb hby d13_22) ?_
    refine XS.iand X0.here hx rfl (hb hby d13_23) rfl ?_
    refine XS.ifYes X0.here hx rfl (pc0 := 24) (pc' := 46) rfl (hb hby d13_24) rfl ((if0 _ _).trans (flt (by decide)).2.2.2) (by decide) (by decide) ?_
    refine XS.iload X0.here hx rfl (hb hby d13_46) rfl ?_
    refine XS.bipush X0.here hx rfl (hb hby d13_48) ?_
    refine XS.icmpNo X0.here hx rfl (hb hby d13_50) rfl (tlt (by decide)).2.1 ?_
    refine XS.aloadN X0.here hx rfl (hb hby d13_53) rfl rfl ?_
    refine XS.iloadN X0.here hx rfl (hb hby d13_54) rfl ?_
    refine XS.iload X0.here hx rfl (hb hby d13_55) rfl ?_
    refine st1 _ ?_
    show Steps p.tables e below (T1.setTop (mkF m 60 #[.val .null, .val (.ref a2), .val (.int (0 : Int32)), .val (.int (0 : Int32)), .val (.int (2 : Int32)), .val (.int (1 : Int32)), .val (.int (2 : Int32)), .unset, .unset, .unset, .unset, .unset, .unset, .unset, .unset, .unset, .unset, .unset, .unset, .unset, .unset, .unset, .unset, .unset, .unset] [])) _
    exact X1.returnOut hx Bd.returns (hb hby d13_60) hr
  · show Qrms2 Z a2 k x0 x1 h0 n0 _ T1.heap _
    exact ⟨rfl, N1, K1, u1⟩
theorem ef_rmd2 (m : MethodId) (a1 : Addr) : entryFrame m #[(.ref a1), (.int (0 : Int32)), (.int (0 : Int32)), (.int (2 : Int32))] 7 = mkF m 0 #[.val (.ref a1), .val (.int (0 : Int32)), .val (.int (0 : Int32)), .val (.int (2 : Int32)), .unset, .unset, .unset] [] := by first | (simp [entryFrame, mkF, argsToLocals, Value.category]; done) | rfl
def Qrmd2 (Z : State) (a1 : Addr) (k : ClassId) (x0 : Int64) (x1 : Int64) (h0 : Heap) (n0 : Nat) (v : Option Value) (h : Heap) (L : List Loc) : Prop := v = none ∧ Fr n0 L ∧ Keep h0 h [a1] ∧ ∃ y0 y1 : Int64, Arv Z h a1 k .long (2 : Int32) [.long y0, .long y1] (.long (0 : Int64)) ∧ (¬ y1 < y0) ∧ ((y0 = x0 ∧ y1 = x1) ∨ (y0 = x1 ∧ y1 = x0))
set_option maxRecDepth 65536 in
set_option maxHeartbeats 40000000 in
theorem rmd2 (l : Launch) (Z : State) (a0 : Array Value) (hw : ∀ d ∈ tables_1, d.before a0 Z = true) (ws : List Jvm.Cond) (a1 : Addr) (k : ClassId) (x0 : Int64) (x1 : Int64) (h0 : Heap) (n0 : Nat) (Z0 : n0 ≤ h0.size) (A : Arv Z h0 a1 k .long (2 : Int32) [.long x0, .long x1] (.long (0 : Int64))) (ga : n0 ≤ a1) :
    MetFree l (⟨"java/util/DualPivotQuicksort", "sort", "([JIII)V"⟩ : MethodName) (head1 (Jvm.Cond.code (⟨"java/util/DualPivotQuicksort", "sort", "([JIII)V"⟩ : MethodName) jdk_2529_method_12_code 7 none :: ws) ({ frames := 2, cells := 0, slots := 0, locals := 54 } : Room)) (fun a U => a = #[(.ref a1), (.int (0 : Int32)), (.int (0 : Int32)), (.int (2 : Int32))] ∧ Z.Warmed39 U.vm ∧ U.heap = h0) (fun _ _ _ _ _ => True) (fun _ U o U' => ∃ v L, o = .returned v ∧ Qrmd2 Z a1 k x0 x1 h0 n0 v U'.heap L ∧ FrameEnd U o U' L ({ frames := 2, cells := 0, slots := 0, locals := 54 } : Room).cells ({ frames := 2, cells := 0, slots := 0, locals := 54 } : Room).slots) := by
  refine MetFree.of_bodySF (plainFor_of_name pn_12) hisR ?_
  intro p e s m args below meth c s₁ Bd hml0 hP hK
  obtain ⟨rfl, hZ, hh⟩ := hP
  have hx := Bd.exec
  have hby := Bd.bytes
  have hml : c.maxLocals = 7 := hml0
  have hown : s.vm.findClass "java/util/DualPivotQuicksort" = some m.cls := findClass_of_methodNamed Bd.named
  have hnm := (name_of_methodNamed Bd.named Bd.method).1
  have X0 : Stand p l e ({ frames := 2, cells := 0, slots := 0, locals := 54 } : Room) s m #[(.ref a1), (.int (0 : Int32)), (.int (0 : Int32)), (.int (2 : Int32))] below meth c s₁ [] 0 0 := Stand.of_body Bd
  have e0 : s₁.heap = h0 := by rw [← hh, Bd.state]; rfl
  have N0 := Fr.nil n0
  have pre0 : ∀ t, Steps p.tables e below (s₁.setTop (mkF m 0 #[.val (.ref a1), .val (.int (0 : Int32)), .val (.int (0 : Int32)), .val (.int (2 : Int32)), .unset, .unset, .unset] [])) t → Steps p.tables e below (s₁.setTop (entryFrame m #[(.ref a1), (.int (0 : Int32)), (.int (0 : Int32)), (.int (2 : Int32))] 7)) t := fun t k => castTop (ef_rmd2 m a1) k
  obtain ⟨_, _, ⟨T1, Lq1, kq1, nq1⟩, -, X1, ⟨Lc1, hQ1, lq1, yq1, zq1⟩, st1⟩ := Jvm.LawKit.callS X0 hx (y := (⟨"java/util/DualPivotQuicksort", "sort", "(Ljava/util/DualPivotQuicksort$Sorter;[JIII)V"⟩ : MethodName)) hown (mvT hZ (hw _ (own_w 62 rfl))) (mvT hZ (hw _ (own_w 63 rfl))) (mvT hZ (hw _ (own_w 60 rfl))) (mvT hZ (hw _ (own_w 64 rfl))) (by decide) (backOf (W := 0) (rms2 l Z a0 hw [] a1 k x0 x1 h0 n0 Z0 A ga) hZ (hw _ (own_w 64 rfl)) (hw _ (own_w 60 rfl)) (by decide) (by decide)) (g := (mkF m 73 #[.val (.ref a1), .val (.int (0 : Int32)), .val (.int (0 : Int32)), .val (.int (2 : Int32)), .val (.int (2 : Int32)), .unset, .unset] [(.int (2 : Int32)), (.int (0 : Int32)), (.int (0 : Int32)), (.ref a1), .null])) rfl (by rw [hml]; rfl) (argsL := [.null, (.ref a1), (.int (0 : Int32)), (.int (0 : Int32)), (.int (2 : Int32))]) (rest := []) (lenOf pd_7 rfl) rfl (by show 2 * 0 + _ ≤ _; exact Nat.le_of_eq rfl) (hb hby d12_73) (fun _ _ => ⟨rfl, e0, (by decide : 0 + 0 ≤ _), (by decide : 0 + 0 ≤ _)⟩)
  dsimp only [Pt.U, Pt.locs, Pt.cells, Pt.slots] at X1 lq1 yq1 zq1 st1 hQ1
  subst lq1 yq1 zq1
  obtain ⟨rfl, N1q, KC1, u1⟩ := hQ1
  have N1 := Fr.app N0 N1q
  have Z1 : n0 ≤ T1.heap.size := Nat.le_trans Z0 KC1.1
  have K1 : Keep h0 T1.heap [a1] := (Keep.refl h0 [a1]).trans KC1 (allS (Or.inl (own_w 0 rfl)) all0)
  obtain ⟨y1_0, y1_1, AV1, so1, pm1⟩ := id u1
  obtain ⟨fs, hr, hrun, hended, hW, hsame⟩ := X1.leave (v := none) (fun _ => rfl) (BodyLoose.notSynchronized Bd)
  refine ⟨_, _, pre0 _ ?_, hrun, hended, _, _, rfl, ?_, ⟨_, rfl⟩, hW, hsame.mono (by decide) (by decide)⟩
  · show Steps p.tables e below (s₁.setTop (mkF m 0 #[.val (.ref a1), .val (.int (0 : Int32)), .val (.int (0 : Int32)), .val (.int (2 : Int32)), .unset, .unset, .unset] [])) _
    refine XS.iloadN X0.here hx rfl (hb hby d12_0) rfl ?_
    refine XS.iloadN X0.here hx rfl (hb hby d12_1) rfl ?_
    refine XS.isub X0.here hx rfl (hb hby d12_2) rfl ?_
    refine XS.istore X0.here hx rfl (hb hby d12_3) rfl (l' := #[.val (.ref a1), .val (.int (0 : Int32)), .val (.int (0 : Int32)), .val (.int (2 : Int32)), .val (.int (2 : Int32)), .unset, .unset]) rfl ?_
    refine XS.iloadN X0.here hx rfl (hb hby d12_5) rfl ?_
    refine XS.iconst X0.here hx rfl (hb hby d12_6) ?_
    refine XS.icmpYes X0.here hx rfl (pc0 := 7) (pc' := 68) rfl (hb hby d12_7) rfl (flt (by decide)).2.2.2 (by decide) (by decide) ?_
    refine XS.aconstNull X0.here hx rfl (hb hby d12_68) ?_
    refine XS.aloadN X0.here hx rfl (hb hby d12_69) rfl rfl ?_
    refine XS.iconst X0.here hx rfl (hb hby d12_70) ?_
    refine XS.iloadN X0.here hx rfl (hb hby d12_71) rfl ?_
    refine XS.iloadN X0.here hx rfl (hb hby d12_72) rfl ?_
    refine st1 _ ?_
    show Steps p.tables e below (T1.setTop (mkF m 76 #[.val (.ref a1), .val (.int (0 : Int32)), .val (.int (0 : Int32)), .val (.int (2 : Int32)), .val (.int (2 : Int32)), .unset, .unset] [])) _
    exact X1.returnOut hx Bd.returns (hb hby d12_76) hr
  · show Qrmd2 Z a1 k x0 x1 h0 n0 _ T1.heap _
    exact ⟨rfl, N1, K1, u1⟩
theorem ef_rma2 (m : MethodId) (a1 : Addr) : entryFrame m #[(.ref a1)] 1 = mkF m 0 #[.val (.ref a1)] [] := by first | (simp [entryFrame, mkF, argsToLocals, Value.category]; done) | rfl
def Qrma2 (Z : State) (a1 : Addr) (k : ClassId) (x0 : Int64) (x1 : Int64) (h0 : Heap) (n0 : Nat) (v : Option Value) (h : Heap) (L : List Loc) : Prop := v = none ∧ Fr n0 L ∧ Keep h0 h [a1] ∧ ∃ y0 y1 : Int64, Arv Z h a1 k .long (2 : Int32) [.long y0, .long y1] (.long (0 : Int64)) ∧ (¬ y1 < y0) ∧ ((y0 = x0 ∧ y1 = x1) ∨ (y0 = x1 ∧ y1 = x0))
set_option maxRecDepth 65536 in
set_option maxHeartbeats 40000000 in
theorem rma2 (l : Launch) (Z : State) (a0 : Array Value) (hw : ∀ d ∈ tables_1, d.before a0 Z = true) (ws : List Jvm.Cond) (a1 : Addr) (k : ClassId) (x0 : Int64) (x1 : Int64) (h0 : Heap) (n0 : Nat) (Z0 : n0 ≤ h0.size) (A : Arv Z h0 a1 k .long (2 : Int32) [.long x0, .long x1] (.long (0 : Int64))) (ga : n0 ≤ a1) :
    MetFree l (⟨"java/util/Arrays", "sort", "([J)V"⟩ : MethodName) (head1 (Jvm.Cond.code (⟨"java/util/Arrays", "sort", "([J)V"⟩ : MethodName) jdk_65_method_4_code 1 none :: ws) ({ frames := 3, cells := 0, slots := 0, locals := 72 } : Room)) (fun a U => a = #[(.ref a1)] ∧ Z.Warmed39 U.vm ∧ U.heap = h0) (fun _ _ _ _ _ => True) (fun _ U o U' => ∃ v L, o = .returned v ∧ Qrma2 Z a1 k x0 x1 h0 n0 v U'.heap L ∧ FrameEnd U o U' L ({ frames := 3, cells := 0, slots := 0, locals := 72 } : Room).cells ({ frames := 3, cells := 0, slots := 0, locals := 72 } : Room).slots) := by
  refine MetFree.of_bodySF (plainFor_of_name pn_11) hisR ?_
  intro p e s m args below meth c s₁ Bd hml0 hP hK
  obtain ⟨rfl, hZ, hh⟩ := hP
  have hx := Bd.exec
  have hby := Bd.bytes
  have hml : c.maxLocals = 1 := hml0
  have hown : s.vm.findClass "java/util/Arrays" = some m.cls := findClass_of_methodNamed Bd.named
  have hnm := (name_of_methodNamed Bd.named Bd.method).1
  have X0 : Stand p l e ({ frames := 3, cells := 0, slots := 0, locals := 72 } : Room) s m #[(.ref a1)] below meth c s₁ [] 0 0 := Stand.of_body Bd
  have e0 : s₁.heap = h0 := by rw [← hh, Bd.state]; rfl
  have N0 := Fr.nil n0
  have pre0 : ∀ t, Steps p.tables e below (s₁.setTop (mkF m 0 #[.val (.ref a1)] [])) t → Steps p.tables e below (s₁.setTop (entryFrame m #[(.ref a1)] 1)) t := fun t k => castTop (ef_rma2 m a1) k
  obtain ⟨cl1, Ar1, qk1, Sz1, Nn1, Hh1, Gg1⟩ := id (A)
  obtain ⟨_, _, ⟨T2, Lq2, kq2, nq2⟩, -, X2, ⟨Lc2, hQ2, lq2, yq2, zq2⟩, st2⟩ := Jvm.LawKit.callS X0 hx (y := (⟨"java/util/DualPivotQuicksort", "sort", "([JIII)V"⟩ : MethodName)) hown (mvT hZ (hw _ (own_w 58 rfl))) (mvT hZ (hw _ (own_w 59 rfl))) (mvT hZ (hw _ (own_w 60 rfl))) (mvT hZ (hw _ (own_w 61 rfl))) (by decide) (backOf (W := 0) (rmd2 l Z a0 hw [] a1 k x0 x1 h0 n0 Z0 A ga) hZ (hw _ (own_w 61 rfl)) (hw _ (own_w 60 rfl)) (by decide) (by decide)) (g := (mkF m 5 #[.val (.ref a1)] [(.int (2 : Int32)), (.int (0 : Int32)), (.int (0 : Int32)), (.ref a1)])) rfl (by rw [hml]; rfl) (argsL := [(.ref a1), (.int (0 : Int32)), (.int (0 : Int32)), (.int (2 : Int32))]) (rest := []) (lenOf pd_8 rfl) rfl (by show 2 * 0 + _ ≤ _; exact Nat.le_of_eq rfl) (hb hby d11_5) (fun _ _ => ⟨rfl, e0, (by decide : 0 + 0 ≤ _), (by decide : 0 + 0 ≤ _)⟩)
  dsimp only [Pt.U, Pt.locs, Pt.cells, Pt.slots] at X2 lq2 yq2 zq2 st2 hQ2
  subst lq2 yq2 zq2
  obtain ⟨rfl, N2q, KC2, u2⟩ := hQ2
  have N2 := Fr.app N0 N2q
  have Z2 : n0 ≤ T2.heap.size := Nat.le_trans Z0 KC2.1
  have K2 : Keep h0 T2.heap [a1] := (Keep.refl h0 [a1]).trans KC2 (allS (Or.inl (own_w 0 rfl)) all0)
  obtain ⟨y2_0, y2_1, AV2, so2, pm2⟩ := id u2
  obtain ⟨fs, hr, hrun, hended, hW, hsame⟩ := X2.leave (v := none) (fun _ => rfl) (BodyLoose.notSynchronized Bd)
  refine ⟨_, _, pre0 _ ?_, hrun, hended, _, _, rfl, ?_, ⟨_, rfl⟩, hW, hsame.mono (by decide) (by decide)⟩
  · show Steps p.tables e below (s₁.setTop (mkF m 0 #[.val (.ref a1)] [])) _
    refine XS.aloadN X0.here hx rfl (hb hby d11_0) rfl rfl ?_
    refine XS.iconst X0.here hx rfl (hb hby d11_1) ?_
    refine XS.iconst X0.here hx rfl (hb hby d11_2) ?_
    refine XS.aloadN X0.here hx rfl (hb hby d11_3) rfl rfl ?_
    refine X0.arraylength hx (by rw [e0]; exact Ar1.1) (State.isArrayOf_alike hZ.alike Ar1.2.1) (g := (mkF m 4 #[.val (.ref a1)] [(.ref a1), (.int (0 : Int32)), (.int (0 : Int32)), (.ref a1)])) rfl rfl (hb hby d11_4) _ ?_
    rw [len_of Sz1 Nn1]
    show Steps p.tables e below (s₁.setTop (mkF m 5 #[.val (.ref a1)] [(.int (2 : Int32)), (.int (0 : Int32)), (.int (0 : Int32)), (.ref a1)])) _
    refine st2 _ ?_
    show Steps p.tables e below (T2.setTop (mkF m 8 #[.val (.ref a1)] [])) _
    exact X2.returnOut hx Bd.returns (hb hby d11_8) hr
  · show Qrma2 Z a1 k x0 x1 h0 n0 _ T2.heap _
    exact ⟨rfl, N2, K2, u2⟩
theorem ef_rmi3 (m : MethodId) (a1 : Addr) : entryFrame m #[(.ref a1), (.int (0 : Int32)), (.int (3 : Int32))] 7 = mkF m 0 #[.val (.ref a1), .val (.int (0 : Int32)), .val (.int (3 : Int32)), .unset, .unset, .unset, .unset] [] := by first | (simp [entryFrame, mkF, argsToLocals, Value.category]; done) | rfl
def Qrmi3 (Z : State) (a1 : Addr) (k : ClassId) (x0 : Int64) (x1 : Int64) (x2 : Int64) (h0 : Heap) (n0 : Nat) (v : Option Value) (h : Heap) (L : List Loc) : Prop := v = none ∧ Fr n0 L ∧ Keep h0 h [a1] ∧ ∃ y0 y1 y2 : Int64, Arv Z h a1 k .long (3 : Int32) [.long y0, .long y1, .long y2] (.long (0 : Int64)) ∧ (¬ y1 < y0 ∧ ¬ y2 < y1) ∧ ((y0 = x0 ∧ y1 = x1 ∧ y2 = x2) ∨ (y0 = x0 ∧ y1 = x2 ∧ y2 = x1) ∨ (y0 = x1 ∧ y1 = x0 ∧ y2 = x2) ∨ (y0 = x1 ∧ y1 = x2 ∧ y2 = x0) ∨ (y0 = x2 ∧ y1 = x0 ∧ y2 = x1) ∨ (y0 = x2 ∧ y1 = x1 ∧ y2 = x0))
set_option maxRecDepth 65536 in
set_option maxHeartbeats 40000000 in
theorem rmi3 (l : Launch) (Z : State) (a0 : Array Value) (hw : ∀ d ∈ tables_1, d.before a0 Z = true) (ws : List Jvm.Cond) (a1 : Addr) (k : ClassId) (x0 : Int64) (x1 : Int64) (x2 : Int64) (h0 : Heap) (n0 : Nat) (Z0 : n0 ≤ h0.size) (A : Arv Z h0 a1 k .long (3 : Int32) [.long x0, .long x1, .long x2] (.long (0 : Int64))) (ga : n0 ≤ a1) :
    MetFree l (⟨"java/util/DualPivotQuicksort", "insertionSort", "([JII)V"⟩ : MethodName) (head1 (Jvm.Cond.code (⟨"java/util/DualPivotQuicksort", "insertionSort", "([JII)V"⟩ : MethodName) jdk_2529_method_15_code 7 none :: ws) ({ frames := 0, cells := 0, slots := 0, locals := 0 } : Room)) (fun a U => a = #[(.ref a1), (.int (0 : Int32)), (.int (3 : Int32))] ∧ Z.Warmed39 U.vm ∧ U.heap = h0) (fun _ _ _ _ _ => True) (fun _ U o U' => ∃ v L, o = .returned v ∧ Qrmi3 Z a1 k x0 x1 x2 h0 n0 v U'.heap L ∧ FrameEnd U o U' L ({ frames := 0, cells := 0, slots := 0, locals := 0 } : Room).cells ({ frames := 0, cells := 0, slots := 0, locals := 0 } : Room).slots) := by
  refine MetFree.of_bodySF (plainFor_of_name pn_14) hisR ?_
  intro p e s m args below meth c s₁ Bd hml0 hP hK
  obtain ⟨rfl, hZ, hh⟩ := hP
  have hx := Bd.exec
  have hby := Bd.bytes
  have hml : c.maxLocals = 7 := hml0
  have hown : s.vm.findClass "java/util/DualPivotQuicksort" = some m.cls := findClass_of_methodNamed Bd.named
  have hnm := (name_of_methodNamed Bd.named Bd.method).1
  have X0 : Stand p l e ({ frames := 0, cells := 0, slots := 0, locals := 0 } : Room) s m #[(.ref a1), (.int (0 : Int32)), (.int (3 : Int32))] below meth c s₁ [] 0 0 := Stand.of_body Bd
  have e0 : s₁.heap = h0 := by rw [← hh, Bd.state]; rfl
  have N0 := Fr.nil n0
  have pre0 : ∀ t, Steps p.tables e below (s₁.setTop (mkF m 0 #[.val (.ref a1), .val (.int (0 : Int32)), .val (.int (3 : Int32)), .unset, .unset, .unset, .unset] [])) t → Steps p.tables e below (s₁.setTop (entryFrame m #[(.ref a1), (.int (0 : Int32)), (.int (3 : Int32))] 7)) t := fun t k => castTop (ef_rmi3 m a1) k
  obtain ⟨cl1, Ar1, qk1, Sz1, Nn1, Hh1, Gg1⟩ := id (A)
  have hin2 : ¬ ((1 : Int32) < 0 ∨ cl1.slots.size ≤ ((1 : Int32)).toNatClampNeg) := inb_of Sz1 ⟨by decide, by decide⟩
  have hat2 : cl1.slots[((1 : Int32)).toNatClampNeg]? = some (.long x1) := Has.at Hh1 hin2 rfl
  obtain ⟨cl3, Ar3, qk3, Sz3, Nn3, Hh3, Gg3⟩ := id (A)
  have hin4 : ¬ ((0 : Int32) < 0 ∨ cl3.slots.size ≤ ((0 : Int32)).toNatClampNeg) := inb_of Sz3 ⟨by decide, by decide⟩
  have hat4 : cl3.slots[((0 : Int32)).toNatClampNeg]? = some (.long x0) := Has.at Hh3 hin4 rfl
  by_cases hc28 : x1 < x0
  · obtain ⟨cl5, Ar5, qk5, Sz5, Nn5, Hh5, Gg5⟩ := id (A)
    have hin6 : ¬ ((0 : Int32) < 0 ∨ cl5.slots.size ≤ ((0 : Int32)).toNatClampNeg) := inb_of Sz5 ⟨by decide, by decide⟩
    have hat6 : cl5.slots[((0 : Int32)).toNatClampNeg]? = some (.long x0) := Has.at Hh5 hin6 rfl
    obtain ⟨cl7, Ar7, qk7, Sz7, Nn7, Hh7, Gg7⟩ := id (A)
    have hin8 : ¬ ((0 : Int32) < 0 ∨ cl7.slots.size ≤ ((0 : Int32)).toNatClampNeg) := inb_of Sz7 ⟨by decide, by decide⟩
    have hat8 : cl7.slots[((0 : Int32)).toNatClampNeg]? = some (.long x0) := Has.at Hh7 hin8 rfl
    obtain ⟨cl9, Ar9, qk9, Sz9, Nn9, Hh9, Gg9⟩ := id (A)
    have hin10 : ¬ ((1 : Int32) < 0 ∨ cl9.slots.size ≤ ((1 : Int32)).toNatClampNeg) := inb_of Sz9 ⟨by decide, by decide⟩
    obtain ⟨T10, h10, X10, e10, W10, st10⟩ := stJ X0 hx hZ e0 Ar9 (j := (1 : Int32)) hin10  (g := (mkF m 55 #[.val (.ref a1), .val (.int (0 : Int32)), .val (.int (3 : Int32)), .val (.int (0 : Int32)), .val (.int (1 : Int32)), .val (.long x1), .second] [(.long x0), (.int (1 : Int32)), (.ref a1)])) rfl rfl (hb hby d14_55)
    have N10 := Fr.snoc X10 N0 ga
    have Z10 : n0 ≤ h10.size := by rw [W10.size]; exact Z0
    have K10 : Keep h0 h10 [a1] := (Keep.refl h0 [a1]).wr W10 (Or.inl (own_w 0 rfl))
    have V10 : Arv Z h10 a1 k .long (3 : Int32) [(.long x0), (.long x0), (.long x2)] (.long (0 : Int64)) := Arv.set Ar9 qk9 Sz9 Nn9 Hh9 Gg9 rfl W10 1 rfl (Nat.le_of_ble_eq_true rfl)
    obtain ⟨cl11, Ar11, qk11, Sz11, Nn11, Hh11, Gg11⟩ := id (V10)
    have hin12 : ¬ ((0 : Int32) < 0 ∨ cl11.slots.size ≤ ((0 : Int32)).toNatClampNeg) := inb_of Sz11 ⟨by decide, by decide⟩
    obtain ⟨T12, h12, X12, e12, W12, st12⟩ := stJ X10 hx hZ e10 Ar11 (j := (0 : Int32)) hin12  (g := (mkF m 65 #[.val (.ref a1), .val (.int (0 : Int32)), .val (.int (3 : Int32)), .val (.int (-1 : Int32)), .val (.int (1 : Int32)), .val (.long x1), .second] [(.long x1), (.int (0 : Int32)), (.ref a1)])) rfl rfl (hb hby d14_65)
    have N12 := Fr.snoc X12 N10 ga
    have Z12 : n0 ≤ h12.size := by rw [W12.size]; exact Z10
    have K12 : Keep h0 h12 [a1] := K10.wr W12 (Or.inl (own_w 0 rfl))
    have V12 : Arv Z h12 a1 k .long (3 : Int32) [(.long x1), (.long x0), (.long x2)] (.long (0 : Int64)) := Arv.set Ar11 qk11 Sz11 Nn11 Hh11 Gg11 rfl W12 0 rfl (Nat.le_of_ble_eq_true rfl)
    obtain ⟨cl13, Ar13, qk13, Sz13, Nn13, Hh13, Gg13⟩ := id (V12)
    have hin14 : ¬ ((2 : Int32) < 0 ∨ cl13.slots.size ≤ ((2 : Int32)).toNatClampNeg) := inb_of Sz13 ⟨by decide, by decide⟩
    have hat14 : cl13.slots[((2 : Int32)).toNatClampNeg]? = some (.long x2) := Has.at Hh13 hin14 rfl
    obtain ⟨cl15, Ar15, qk15, Sz15, Nn15, Hh15, Gg15⟩ := id (V12)
    have hin16 : ¬ ((1 : Int32) < 0 ∨ cl15.slots.size ≤ ((1 : Int32)).toNatClampNeg) := inb_of Sz15 ⟨by decide, by decide⟩
    have hat16 : cl15.slots[((1 : Int32)).toNatClampNeg]? = some (.long x0) := Has.at Hh15 hin16 rfl
    by_cases hc28_2 : x2 < x0
    · obtain ⟨cl17, Ar17, qk17, Sz17, Nn17, Hh17, Gg17⟩ := id (V12)
      have hin18 : ¬ ((1 : Int32) < 0 ∨ cl17.slots.size ≤ ((1 : Int32)).toNatClampNeg) := inb_of Sz17 ⟨by decide, by decide⟩
      have hat18 : cl17.slots[((1 : Int32)).toNatClampNeg]? = some (.long x0) := Has.at Hh17 hin18 rfl
      obtain ⟨cl19, Ar19, qk19, Sz19, Nn19, Hh19, Gg19⟩ := id (V12)
      have hin20 : ¬ ((1 : Int32) < 0 ∨ cl19.slots.size ≤ ((1 : Int32)).toNatClampNeg) := inb_of Sz19 ⟨by decide, by decide⟩
      have hat20 : cl19.slots[((1 : Int32)).toNatClampNeg]? = some (.long x0) := Has.at Hh19 hin20 rfl
      obtain ⟨cl21, Ar21, qk21, Sz21, Nn21, Hh21, Gg21⟩ := id (V12)
      have hin22 : ¬ ((2 : Int32) < 0 ∨ cl21.slots.size ≤ ((2 : Int32)).toNatClampNeg) := inb_of Sz21 ⟨by decide, by decide⟩
      obtain ⟨T22, h22, X22, e22, W22, st22⟩ := stJ X12 hx hZ e12 Ar21 (j := (2 : Int32)) hin22  (g := (mkF m 55 #[.val (.ref a1), .val (.int (0 : Int32)), .val (.int (3 : Int32)), .val (.int (1 : Int32)), .val (.int (2 : Int32)), .val (.long x2), .second] [(.long x0), (.int (2 : Int32)), (.ref a1)])) rfl rfl (hb hby d14_55)
      have N22 := Fr.snoc X22 N12 ga
      have Z22 : n0 ≤ h22.size := by rw [W22.size]; exact Z12
      have K22 : Keep h0 h22 [a1] := K12.wr W22 (Or.inl (own_w 0 rfl))
      have V22 : Arv Z h22 a1 k .long (3 : Int32) [(.long x1), (.long x0), (.long x0)] (.long (0 : Int64)) := Arv.set Ar21 qk21 Sz21 Nn21 Hh21 Gg21 rfl W22 2 rfl (Nat.le_of_ble_eq_true rfl)
      obtain ⟨cl23, Ar23, qk23, Sz23, Nn23, Hh23, Gg23⟩ := id (V22)
      have hin24 : ¬ ((0 : Int32) < 0 ∨ cl23.slots.size ≤ ((0 : Int32)).toNatClampNeg) := inb_of Sz23 ⟨by decide, by decide⟩
      have hat24 : cl23.slots[((0 : Int32)).toNatClampNeg]? = some (.long x1) := Has.at Hh23 hin24 rfl
      by_cases hc45_3 : x2 < x1
      · obtain ⟨cl25, Ar25, qk25, Sz25, Nn25, Hh25, Gg25⟩ := id (V22)
        have hin26 : ¬ ((0 : Int32) < 0 ∨ cl25.slots.size ≤ ((0 : Int32)).toNatClampNeg) := inb_of Sz25 ⟨by decide, by decide⟩
        have hat26 : cl25.slots[((0 : Int32)).toNatClampNeg]? = some (.long x1) := Has.at Hh25 hin26 rfl
        obtain ⟨cl27, Ar27, qk27, Sz27, Nn27, Hh27, Gg27⟩ := id (V22)
        have hin28 : ¬ ((1 : Int32) < 0 ∨ cl27.slots.size ≤ ((1 : Int32)).toNatClampNeg) := inb_of Sz27 ⟨by decide, by decide⟩
        obtain ⟨T28, h28, X28, e28, W28, st28⟩ := stJ X22 hx hZ e22 Ar27 (j := (1 : Int32)) hin28  (g := (mkF m 55 #[.val (.ref a1), .val (.int (0 : Int32)), .val (.int (3 : Int32)), .val (.int (0 : Int32)), .val (.int (2 : Int32)), .val (.long x2), .second] [(.long x1), (.int (1 : Int32)), (.ref a1)])) rfl rfl (hb hby d14_55)
        have N28 := Fr.snoc X28 N22 ga
        have Z28 : n0 ≤ h28.size := by rw [W28.size]; exact Z22
        have K28 : Keep h0 h28 [a1] := K22.wr W28 (Or.inl (own_w 0 rfl))
        have V28 : Arv Z h28 a1 k .long (3 : Int32) [(.long x1), (.long x1), (.long x0)] (.long (0 : Int64)) := Arv.set Ar27 qk27 Sz27 Nn27 Hh27 Gg27 rfl W28 1 rfl (Nat.le_of_ble_eq_true rfl)
        obtain ⟨cl29, Ar29, qk29, Sz29, Nn29, Hh29, Gg29⟩ := id (V28)
        have hin30 : ¬ ((0 : Int32) < 0 ∨ cl29.slots.size ≤ ((0 : Int32)).toNatClampNeg) := inb_of Sz29 ⟨by decide, by decide⟩
        obtain ⟨T30, h30, X30, e30, W30, st30⟩ := stJ X28 hx hZ e28 Ar29 (j := (0 : Int32)) hin30  (g := (mkF m 65 #[.val (.ref a1), .val (.int (0 : Int32)), .val (.int (3 : Int32)), .val (.int (-1 : Int32)), .val (.int (2 : Int32)), .val (.long x2), .second] [(.long x2), (.int (0 : Int32)), (.ref a1)])) rfl rfl (hb hby d14_65)
        have N30 := Fr.snoc X30 N28 ga
        have Z30 : n0 ≤ h30.size := by rw [W30.size]; exact Z28
        have K30 : Keep h0 h30 [a1] := K28.wr W30 (Or.inl (own_w 0 rfl))
        have V30 : Arv Z h30 a1 k .long (3 : Int32) [(.long x2), (.long x1), (.long x0)] (.long (0 : Int64)) := Arv.set Ar29 qk29 Sz29 Nn29 Hh29 Gg29 rfl W30 0 rfl (Nat.le_of_ble_eq_true rfl)
        obtain ⟨fs, hr, hrun, hended, hW, hsame⟩ := X30.leave (v := none) (fun _ => rfl) (BodyLoose.notSynchronized Bd)
        refine ⟨_, _, pre0 _ ?_, hrun, hended, _, _, rfl, ?_, ⟨_, rfl⟩, hW, hsame.mono (by decide) (by decide)⟩
        · show Steps p.tables e below (s₁.setTop (mkF m 0 #[.val (.ref a1), .val (.int (0 : Int32)), .val (.int (3 : Int32)), .unset, .unset, .unset, .unset] [])) _
          refine XS.iloadN X0.here hx rfl (hb hby d14_0) rfl ?_
          refine XS.istore X0.here hx rfl (hb hby d14_1) rfl (l' := #[.val (.ref a1), .val (.int (0 : Int32)), .val (.int (3 : Int32)), .unset, .val (.int (0 : Int32)), .unset, .unset]) rfl ?_
          refine XS.iinc X0.here hx rfl (hb hby d14_3) rfl (l' := #[.val (.ref a1), .val (.int (0 : Int32)), .val (.int (3 : Int32)), .unset, .val (.int (1 : Int32)), .unset, .unset]) rfl ?_
          refine XS.iload X0.here hx rfl (hb hby d14_6) rfl ?_
          refine XS.iloadN X0.here hx rfl (hb hby d14_8) rfl ?_
          refine XS.icmpNo X0.here hx rfl (hb hby d14_9) rfl (tlt (by decide)).2.1 ?_
          refine XS.aloadN X0.here hx rfl (hb hby d14_12) rfl rfl ?_
          refine XS.iload X0.here hx rfl (hb hby d14_13) rfl ?_
          refine XS.dup X0.here hx rfl (hb hby d14_15) rfl rfl ?_
          refine XS.istoreN X0.here hx rfl (hb hby d14_16) rfl (l' := #[.val (.ref a1), .val (.int (0 : Int32)), .val (.int (3 : Int32)), .val (.int (1 : Int32)), .val (.int (1 : Int32)), .unset, .unset]) rfl ?_
          refine X0.laload hx (j := (1 : Int32)) (v := (.long x1)) (by rw [e0]; exact Ar1.1) (State.isArrayOf_alike hZ.alike Ar1.2.1) Ar1.2.2 hin2 hat2 (g := (mkF m 17 #[.val (.ref a1), .val (.int (0 : Int32)), .val (.int (3 : Int32)), .val (.int (1 : Int32)), .val (.int (1 : Int32)), .unset, .unset] [(.int (1 : Int32)), (.ref a1)])) rfl rfl (hb hby d14_17) _ ?_
          refine XS.lstore X0.here hx rfl (hb hby d14_18) rfl (l' := #[.val (.ref a1), .val (.int (0 : Int32)), .val (.int (3 : Int32)), .val (.int (1 : Int32)), .val (.int (1 : Int32)), .val (.long x1), .second]) rfl ?_
          refine XS.lload X0.here hx rfl (hb hby d14_20) rfl ?_
          refine XS.aloadN X0.here hx rfl (hb hby d14_22) rfl rfl ?_
          refine XS.iloadN X0.here hx rfl (hb hby d14_23) rfl ?_
          refine XS.iconst X0.here hx rfl (hb hby d14_24) ?_
          refine XS.isub X0.here hx rfl (hb hby d14_25) rfl ?_
          refine X0.laload hx (j := (0 : Int32)) (v := (.long x0)) (by rw [e0]; exact Ar3.1) (State.isArrayOf_alike hZ.alike Ar3.2.1) Ar3.2.2 hin4 hat4 (g := (mkF m 26 #[.val (.ref a1), .val (.int (0 : Int32)), .val (.int (3 : Int32)), .val (.int (1 : Int32)), .val (.int (1 : Int32)), .val (.long x1), .second] [(.int (0 : Int32)), (.ref a1), (.long x1)])) rfl rfl (hb hby d14_26) _ ?_
          refine XS.lcmp X0.here hx rfl (hb hby d14_27) rfl ?_
          refine XS.ifNo X0.here hx rfl (hb hby d14_28) rfl ((if0 _ _).trans (tlt (own_lclt hc28)).2.1) ?_
          refine XS.iinc X0.here hx rfl (hb hby d14_31) rfl (l' := #[.val (.ref a1), .val (.int (0 : Int32)), .val (.int (3 : Int32)), .val (.int (0 : Int32)), .val (.int (1 : Int32)), .val (.long x1), .second]) rfl ?_
          refine XS.iloadN X0.here hx rfl (hb hby d14_34) rfl ?_
          refine XS.iloadN X0.here hx rfl (hb hby d14_35) rfl ?_
          refine XS.icmpNo X0.here hx rfl (hb hby d14_36) rfl (flt (by decide)).1 ?_
          refine XS.lload X0.here hx rfl (hb hby d14_39) rfl ?_
          refine XS.aloadN X0.here hx rfl (hb hby d14_41) rfl rfl ?_
          refine XS.iloadN X0.here hx rfl (hb hby d14_42) rfl ?_
          refine X0.laload hx (j := (0 : Int32)) (v := (.long x0)) (by rw [e0]; exact Ar5.1) (State.isArrayOf_alike hZ.alike Ar5.2.1) Ar5.2.2 hin6 hat6 (g := (mkF m 43 #[.val (.ref a1), .val (.int (0 : Int32)), .val (.int (3 : Int32)), .val (.int (0 : Int32)), .val (.int (1 : Int32)), .val (.long x1), .second] [(.int (0 : Int32)), (.ref a1), (.long x1)])) rfl rfl (hb hby d14_43) _ ?_
          refine XS.lcmp X0.here hx rfl (hb hby d14_44) rfl ?_
          refine XS.ifNo X0.here hx rfl (hb hby d14_45) rfl ((if0 _ _).trans (tlt (own_lclt hc28)).2.1) ?_
          refine XS.aloadN X0.here hx rfl (hb hby d14_48) rfl rfl ?_
          refine XS.iloadN X0.here hx rfl (hb hby d14_49) rfl ?_
          refine XS.iconst X0.here hx rfl (hb hby d14_50) ?_
          refine XS.iadd X0.here hx rfl (hb hby d14_51) rfl ?_
          refine XS.aloadN X0.here hx rfl (hb hby d14_52) rfl rfl ?_
          refine XS.iloadN X0.here hx rfl (hb hby d14_53) rfl ?_
          refine X0.laload hx (j := (0 : Int32)) (v := (.long x0)) (by rw [e0]; exact Ar7.1) (State.isArrayOf_alike hZ.alike Ar7.2.1) Ar7.2.2 hin8 hat8 (g := (mkF m 54 #[.val (.ref a1), .val (.int (0 : Int32)), .val (.int (3 : Int32)), .val (.int (0 : Int32)), .val (.int (1 : Int32)), .val (.long x1), .second] [(.int (0 : Int32)), (.ref a1), (.int (1 : Int32)), (.ref a1)])) rfl rfl (hb hby d14_54) _ ?_
          refine st10 _ ?_
          refine XS.goto X10.here hx rfl (pc0 := 56) (pc' := 31) rfl (hb hby d14_56) (by decide) (by decide) ?_
          refine XS.iinc X10.here hx rfl (hb hby d14_31) rfl (l' := #[.val (.ref a1), .val (.int (0 : Int32)), .val (.int (3 : Int32)), .val (.int (-1 : Int32)), .val (.int (1 : Int32)), .val (.long x1), .second]) rfl ?_
          show Steps p.tables e below (T10.setTop (mkF m 34 #[.val (.ref a1), .val (.int (0 : Int32)), .val (.int (3 : Int32)), .val (.int (-1 : Int32)), .val (.int (1 : Int32)), .val (.long x1), .second] [])) _
          refine XS.iloadN X10.here hx rfl (hb hby d14_34) rfl ?_
          refine XS.iloadN X10.here hx rfl (hb hby d14_35) rfl ?_
          refine XS.icmpYes X10.here hx rfl (pc0 := 36) (pc' := 59) rfl (hb hby d14_36) rfl (tlt (by decide)).1 (by decide) (by decide) ?_
          refine XS.aloadN X10.here hx rfl (hb hby d14_59) rfl rfl ?_
          refine XS.iloadN X10.here hx rfl (hb hby d14_60) rfl ?_
          refine XS.iconst X10.here hx rfl (hb hby d14_61) ?_
          refine XS.iadd X10.here hx rfl (hb hby d14_62) rfl ?_
          refine XS.lload X10.here hx rfl (hb hby d14_63) rfl ?_
          refine st12 _ ?_
          refine XS.goto X12.here hx rfl (pc0 := 66) (pc' := 3) rfl (hb hby d14_66) (by decide) (by decide) ?_
          refine XS.iinc X12.here hx rfl (hb hby d14_3) rfl (l' := #[.val (.ref a1), .val (.int (0 : Int32)), .val (.int (3 : Int32)), .val (.int (-1 : Int32)), .val (.int (2 : Int32)), .val (.long x1), .second]) rfl ?_
          refine XS.iload X12.here hx rfl (hb hby d14_6) rfl ?_
          refine XS.iloadN X12.here hx rfl (hb hby d14_8) rfl ?_
          refine XS.icmpNo X12.here hx rfl (hb hby d14_9) rfl (tlt (by decide)).2.1 ?_
          refine XS.aloadN X12.here hx rfl (hb hby d14_12) rfl rfl ?_
          refine XS.iload X12.here hx rfl (hb hby d14_13) rfl ?_
          refine XS.dup X12.here hx rfl (hb hby d14_15) rfl rfl ?_
          refine XS.istoreN X12.here hx rfl (hb hby d14_16) rfl (l' := #[.val (.ref a1), .val (.int (0 : Int32)), .val (.int (3 : Int32)), .val (.int (2 : Int32)), .val (.int (2 : Int32)), .val (.long x1), .second]) rfl ?_
          refine X12.laload hx (j := (2 : Int32)) (v := (.long x2)) (by rw [e12]; exact Ar13.1) (State.isArrayOf_alike hZ.alike Ar13.2.1) Ar13.2.2 hin14 hat14 (g := (mkF m 17 #[.val (.ref a1), .val (.int (0 : Int32)), .val (.int (3 : Int32)), .val (.int (2 : Int32)), .val (.int (2 : Int32)), .val (.long x1), .second] [(.int (2 : Int32)), (.ref a1)])) rfl rfl (hb hby d14_17) _ ?_
          refine XS.lstore X12.here hx rfl (hb hby d14_18) rfl (l' := #[.val (.ref a1), .val (.int (0 : Int32)), .val (.int (3 : Int32)), .val (.int (2 : Int32)), .val (.int (2 : Int32)), .val (.long x2), .second]) rfl ?_
          refine XS.lload X12.here hx rfl (hb hby d14_20) rfl ?_
          refine XS.aloadN X12.here hx rfl (hb hby d14_22) rfl rfl ?_
          refine XS.iloadN X12.here hx rfl (hb hby d14_23) rfl ?_
          refine XS.iconst X12.here hx rfl (hb hby d14_24) ?_
          refine XS.isub X12.here hx rfl (hb hby d14_25) rfl ?_
          refine X12.laload hx (j := (1 : Int32)) (v := (.long x0)) (by rw [e12]; exact Ar15.1) (State.isArrayOf_alike hZ.alike Ar15.2.1) Ar15.2.2 hin16 hat16 (g := (mkF m 26 #[.val (.ref a1), .val (.int (0 : Int32)), .val (.int (3 : Int32)), .val (.int (2 : Int32)), .val (.int (2 : Int32)), .val (.long x2), .second] [(.int (1 : Int32)), (.ref a1), (.long x2)])) rfl rfl (hb hby d14_26) _ ?_
          refine XS.lcmp X12.here hx rfl (hb hby d14_27) rfl ?_
          refine XS.ifNo X12.here hx rfl (hb hby d14_28) rfl ((if0 _ _).trans (tlt (own_lclt hc28_2)).2.1) ?_
          refine XS.iinc X12.here hx rfl (hb hby d14_31) rfl (l' := #[.val (.ref a1), .val (.int (0 : Int32)), .val (.int (3 : Int32)), .val (.int (1 : Int32)), .val (.int (2 : Int32)), .val (.long x2), .second]) rfl ?_
          refine XS.iloadN X12.here hx rfl (hb hby d14_34) rfl ?_
          refine XS.iloadN X12.here hx rfl (hb hby d14_35) rfl ?_
          refine XS.icmpNo X12.here hx rfl (hb hby d14_36) rfl (flt (by decide)).1 ?_
          refine XS.lload X12.here hx rfl (hb hby d14_39) rfl ?_
          refine XS.aloadN X12.here hx rfl (hb hby d14_41) rfl rfl ?_
          refine XS.iloadN X12.here hx rfl (hb hby d14_42) rfl ?_
          refine X12.laload hx (j := (1 : Int32)) (v := (.long x0)) (by rw [e12]; exact Ar17.1) (State.isArrayOf_alike hZ.alike Ar17.2.1) Ar17.2.2 hin18 hat18 (g := (mkF m 43 #[.val (.ref a1), .val (.int (0 : Int32)), .val (.int (3 : Int32)), .val (.int (1 : Int32)), .val (.int (2 : Int32)), .val (.long x2), .second] [(.int (1 : Int32)), (.ref a1), (.long x2)])) rfl rfl (hb hby d14_43) _ ?_
          refine XS.lcmp X12.here hx rfl (hb hby d14_44) rfl ?_
          refine XS.ifNo X12.here hx rfl (hb hby d14_45) rfl ((if0 _ _).trans (tlt (own_lclt hc28_2)).2.1) ?_
          refine XS.aloadN X12.here hx rfl (hb hby d14_48) rfl rfl ?_
          refine XS.iloadN X12.here hx rfl (hb hby d14_49) rfl ?_
          show Steps p.tables e below (T12.setTop (mkF m 50 #[.val (.ref a1), .val (.int (0 : Int32)), .val (.int (3 : Int32)), .val (.int (1 : Int32)), .val (.int (2 : Int32)), .val (.long x2), .second] [(.int (1 : Int32)), (.ref a1)])) _
          refine XS.iconst X12.here hx rfl (hb hby d14_50) ?_
          refine XS.iadd X12.here hx rfl (hb hby d14_51) rfl ?_
          refine XS.aloadN X12.here hx rfl (hb hby d14_52) rfl rfl ?_
          refine XS.iloadN X12.here hx rfl (hb hby d14_53) rfl ?_
          refine X12.laload hx (j := (1 : Int32)) (v := (.long x0)) (by rw [e12]; exact Ar19.1) (State.isArrayOf_alike hZ.alike Ar19.2.1) Ar19.2.2 hin20 hat20 (g := (mkF m 54 #[.val (.ref a1), .val (.int (0 : Int32)), .val (.int (3 : Int32)), .val (.int (1 : Int32)), .val (.int (2 : Int32)), .val (.long x2), .second] [(.int (1 : Int32)), (.ref a1), (.int (2 : Int32)), (.ref a1)])) rfl rfl (hb hby d14_54) _ ?_
          refine st22 _ ?_
          refine XS.goto X22.here hx rfl (pc0 := 56) (pc' := 31) rfl (hb hby d14_56) (by decide) (by decide) ?_
          refine XS.iinc X22.here hx rfl (hb hby d14_31) rfl (l' := #[.val (.ref a1), .val (.int (0 : Int32)), .val (.int (3 : Int32)), .val (.int (0 : Int32)), .val (.int (2 : Int32)), .val (.long x2), .second]) rfl ?_
          refine XS.iloadN X22.here hx rfl (hb hby d14_34) rfl ?_
          refine XS.iloadN X22.here hx rfl (hb hby d14_35) rfl ?_
          refine XS.icmpNo X22.here hx rfl (hb hby d14_36) rfl (flt (by decide)).1 ?_
          refine XS.lload X22.here hx rfl (hb hby d14_39) rfl ?_
          refine XS.aloadN X22.here hx rfl (hb hby d14_41) rfl rfl ?_
          refine XS.iloadN X22.here hx rfl (hb hby d14_42) rfl ?_
          refine X22.laload hx (j := (0 : Int32)) (v := (.long x1)) (by rw [e22]; exact Ar23.1) (State.isArrayOf_alike hZ.alike Ar23.2.1) Ar23.2.2 hin24 hat24 (g := (mkF m 43 #[.val (.ref a1), .val (.int (0 : Int32)), .val (.int (3 : Int32)), .val (.int (0 : Int32)), .val (.int (2 : Int32)), .val (.long x2), .second] [(.int (0 : Int32)), (.ref a1), (.long x2)])) rfl rfl (hb hby d14_43) _ ?_
          refine XS.lcmp X22.here hx rfl (hb hby d14_44) rfl ?_
          refine XS.ifNo X22.here hx rfl (hb hby d14_45) rfl ((if0 _ _).trans (tlt (own_lclt hc45_3)).2.1) ?_
          refine XS.aloadN X22.here hx rfl (hb hby d14_48) rfl rfl ?_
          refine XS.iloadN X22.here hx rfl (hb hby d14_49) rfl ?_
          refine XS.iconst X22.here hx rfl (hb hby d14_50) ?_
          refine XS.iadd X22.here hx rfl (hb hby d14_51) rfl ?_
          refine XS.aloadN X22.here hx rfl (hb hby d14_52) rfl rfl ?_
          refine XS.iloadN X22.here hx rfl (hb hby d14_53) rfl ?_
          refine X22.laload hx (j := (0 : Int32)) (v := (.long x1)) (by rw [e22]; exact Ar25.1) (State.isArrayOf_alike hZ.alike Ar25.2.1) Ar25.2.2 hin26 hat26 (g := (mkF m 54 #[.val (.ref a1), .val (.int (0 : Int32)), .val (.int (3 : Int32)), .val (.int (0 : Int32)), .val (.int (2 : Int32)), .val (.long x2), .second] [(.int (0 : Int32)), (.ref a1), (.int (1 : Int32)), (.ref a1)])) rfl rfl (hb hby d14_54) _ ?_
          refine st28 _ ?_
          refine XS.goto X28.here hx rfl (pc0 := 56) (pc' := 31) rfl (hb hby d14_56) (by decide) (by decide) ?_
          refine XS.iinc X28.here hx rfl (hb hby d14_31) rfl (l' := #[.val (.ref a1), .val (.int (0 : Int32)), .val (.int (3 : Int32)), .val (.int (-1 : Int32)), .val (.int (2 : Int32)), .val (.long x2), .second]) rfl ?_
          refine XS.iloadN X28.here hx rfl (hb hby d14_34) rfl ?_
          refine XS.iloadN X28.here hx rfl (hb hby d14_35) rfl ?_
          refine XS.icmpYes X28.here hx rfl (pc0 := 36) (pc' := 59) rfl (hb hby d14_36) rfl (tlt (by decide)).1 (by decide) (by decide) ?_
          refine XS.aloadN X28.here hx rfl (hb hby d14_59) rfl rfl ?_
          refine XS.iloadN X28.here hx rfl (hb hby d14_60) rfl ?_
          refine XS.iconst X28.here hx rfl (hb hby d14_61) ?_
          refine XS.iadd X28.here hx rfl (hb hby d14_62) rfl ?_
          refine XS.lload X28.here hx rfl (hb hby d14_63) rfl ?_
          refine st30 _ ?_
          refine XS.goto X30.here hx rfl (pc0 := 66) (pc' := 3) rfl (hb hby d14_66) (by decide) (by decide) ?_
          refine XS.iinc X30.here hx rfl (hb hby d14_3) rfl (l' := #[.val (.ref a1), .val (.int (0 : Int32)), .val (.int (3 : Int32)), .val (.int (-1 : Int32)), .val (.int (3 : Int32)), .val (.long x2), .second]) rfl ?_
          refine XS.iload X30.here hx rfl (hb hby d14_6) rfl ?_
          refine XS.iloadN X30.here hx rfl (hb hby d14_8) rfl ?_
          show Steps p.tables e below (T30.setTop (mkF m 9 #[.val (.ref a1), .val (.int (0 : Int32)), .val (.int (3 : Int32)), .val (.int (-1 : Int32)), .val (.int (3 : Int32)), .val (.long x2), .second] [(.int (3 : Int32)), (.int (3 : Int32))])) _
          refine XS.icmpYes X30.here hx rfl (pc0 := 9) (pc' := 69) rfl (hb hby d14_9) rfl (flt (by decide)).2.1 (by decide) (by decide) ?_
          show Steps p.tables e below (T30.setTop (mkF m 69 #[.val (.ref a1), .val (.int (0 : Int32)), .val (.int (3 : Int32)), .val (.int (-1 : Int32)), .val (.int (3 : Int32)), .val (.long x2), .second] [])) _
          exact X30.returnOut hx Bd.returns (hb hby d14_69) hr
        · show Qrmi3 Z a1 k x0 x1 x2 h0 n0 _ T30.heap _
          rw [e30]
          exact ⟨rfl, N30, K30, x2, x1, x0, V30, ⟨(own_ltN hc45_3), (own_ltN hc28)⟩, (Or.inr (Or.inr (Or.inr (Or.inr (Or.inr ⟨rfl, rfl, rfl⟩)))))⟩
      · obtain ⟨cl31, Ar31, qk31, Sz31, Nn31, Hh31, Gg31⟩ := id (V22)
        have hin32 : ¬ ((1 : Int32) < 0 ∨ cl31.slots.size ≤ ((1 : Int32)).toNatClampNeg) := inb_of Sz31 ⟨by decide, by decide⟩
        obtain ⟨T32, h32, X32, e32, W32, st32⟩ := stJ X22 hx hZ e22 Ar31 (j := (1 : Int32)) hin32  (g := (mkF m 65 #[.val (.ref a1), .val (.int (0 : Int32)), .val (.int (3 : Int32)), .val (.int (0 : Int32)), .val (.int (2 : Int32)), .val (.long x2), .second] [(.long x2), (.int (1 : Int32)), (.ref a1)])) rfl rfl (hb hby d14_65)
        have N32 := Fr.snoc X32 N22 ga
        have Z32 : n0 ≤ h32.size := by rw [W32.size]; exact Z22
        have K32 : Keep h0 h32 [a1] := K22.wr W32 (Or.inl (own_w 0 rfl))
        have V32 : Arv Z h32 a1 k .long (3 : Int32) [(.long x1), (.long x2), (.long x0)] (.long (0 : Int64)) := Arv.set Ar31 qk31 Sz31 Nn31 Hh31 Gg31 rfl W32 1 rfl (Nat.le_of_ble_eq_true rfl)
        obtain ⟨fs, hr, hrun, hended, hW, hsame⟩ := X32.leave (v := none) (fun _ => rfl) (BodyLoose.notSynchronized Bd)
        refine ⟨_, _, pre0 _ ?_, hrun, hended, _, _, rfl, ?_, ⟨_, rfl⟩, hW, hsame.mono (by decide) (by decide)⟩
        · show Steps p.tables e below (s₁.setTop (mkF m 0 #[.val (.ref a1), .val (.int (0 : Int32)), .val (.int (3 : Int32)), .unset, .unset, .unset, .unset] [])) _
          refine XS.iloadN X0.here hx rfl (hb hby d14_0) rfl ?_
          refine XS.istore X0.here hx rfl (hb hby d14_1) rfl (l' := #[.val (.ref a1), .val (.int (0 : Int32)), .val (.int (3 : Int32)), .unset, .val (.int (0 : Int32)), .unset, .unset]) rfl ?_
          refine XS.iinc X0.here hx rfl (hb hby d14_3) rfl (l' := #[.val (.ref a1), .val (.int (0 : Int32)), .val (.int (3 : Int32)), .unset, .val (.int (1 : Int32)), .unset, .unset]) rfl ?_
          refine XS.iload X0.here hx rfl (hb hby d14_6) rfl ?_
          refine XS.iloadN X0.here hx rfl (hb hby d14_8) rfl ?_
          refine XS.icmpNo X0.here hx rfl (hb hby d14_9) rfl (tlt (by decide)).2.1 ?_
          refine XS.aloadN X0.here hx rfl (hb hby d14_12) rfl rfl ?_
          refine XS.iload X0.here hx rfl (hb hby d14_13) rfl ?_
          refine XS.dup X0.here hx rfl (hb hby d14_15) rfl rfl ?_
          refine XS.istoreN X0.here hx rfl (hb hby d14_16) rfl (l' := #[.val (.ref a1), .val (.int (0 : Int32)), .val (.int (3 : Int32)), .val (.int (1 : Int32)), .val (.int (1 : Int32)), .unset, .unset]) rfl ?_
          refine X0.laload hx (j := (1 : Int32)) (v := (.long x1)) (by rw [e0]; exact Ar1.1) (State.isArrayOf_alike hZ.alike Ar1.2.1) Ar1.2.2 hin2 hat2 (g := (mkF m 17 #[.val (.ref a1), .val (.int (0 : Int32)), .val (.int (3 : Int32)), .val (.int (1 : Int32)), .val (.int (1 : Int32)), .unset, .unset] [(.int (1 : Int32)), (.ref a1)])) rfl rfl (hb hby d14_17) _ ?_
          refine XS.lstore X0.here hx rfl (hb hby d14_18) rfl (l' := #[.val (.ref a1), .val (.int (0 : Int32)), .val (.int (3 : Int32)), .val (.int (1 : Int32)), .val (.int (1 : Int32)), .val (.long x1), .second]) rfl ?_
          refine XS.lload X0.here hx rfl (hb hby d14_20) rfl ?_
          refine XS.aloadN X0.here hx rfl (hb hby d14_22) rfl rfl ?_
          refine XS.iloadN X0.here hx rfl (hb hby d14_23) rfl ?_
          refine XS.iconst X0.here hx rfl (hb hby d14_24) ?_
          refine XS.isub X0.here hx rfl (hb hby d14_25) rfl ?_
          refine X0.laload hx (j := (0 : Int32)) (v := (.long x0)) (by rw [e0]; exact Ar3.1) (State.isArrayOf_alike hZ.alike Ar3.2.1) Ar3.2.2 hin4 hat4 (g := (mkF m 26 #[.val (.ref a1), .val (.int (0 : Int32)), .val (.int (3 : Int32)), .val (.int (1 : Int32)), .val (.int (1 : Int32)), .val (.long x1), .second] [(.int (0 : Int32)), (.ref a1), (.long x1)])) rfl rfl (hb hby d14_26) _ ?_
          refine XS.lcmp X0.here hx rfl (hb hby d14_27) rfl ?_
          refine XS.ifNo X0.here hx rfl (hb hby d14_28) rfl ((if0 _ _).trans (tlt (own_lclt hc28)).2.1) ?_
          refine XS.iinc X0.here hx rfl (hb hby d14_31) rfl (l' := #[.val (.ref a1), .val (.int (0 : Int32)), .val (.int (3 : Int32)), .val (.int (0 : Int32)), .val (.int (1 : Int32)), .val (.long x1), .second]) rfl ?_
          refine XS.iloadN X0.here hx rfl (hb hby d14_34) rfl ?_
          refine XS.iloadN X0.here hx rfl (hb hby d14_35) rfl ?_
          refine XS.icmpNo X0.here hx rfl (hb hby d14_36) rfl (flt (by decide)).1 ?_
          refine XS.lload X0.here hx rfl (hb hby d14_39) rfl ?_
          refine XS.aloadN X0.here hx rfl (hb hby d14_41) rfl rfl ?_
          refine XS.iloadN X0.here hx rfl (hb hby d14_42) rfl ?_
          refine X0.laload hx (j := (0 : Int32)) (v := (.long x0)) (by rw [e0]; exact Ar5.1) (State.isArrayOf_alike hZ.alike Ar5.2.1) Ar5.2.2 hin6 hat6 (g := (mkF m 43 #[.val (.ref a1), .val (.int (0 : Int32)), .val (.int (3 : Int32)), .val (.int (0 : Int32)), .val (.int (1 : Int32)), .val (.long x1), .second] [(.int (0 : Int32)), (.ref a1), (.long x1)])) rfl rfl (hb hby d14_43) _ ?_
          refine XS.lcmp X0.here hx rfl (hb hby d14_44) rfl ?_
          refine XS.ifNo X0.here hx rfl (hb hby d14_45) rfl ((if0 _ _).trans (tlt (own_lclt hc28)).2.1) ?_
          refine XS.aloadN X0.here hx rfl (hb hby d14_48) rfl rfl ?_
          refine XS.iloadN X0.here hx rfl (hb hby d14_49) rfl ?_
          refine XS.iconst X0.here hx rfl (hb hby d14_50) ?_
          refine XS.iadd X0.here hx rfl (hb hby d14_51) rfl ?_
          refine XS.aloadN X0.here hx rfl (hb hby d14_52) rfl rfl ?_
          refine XS.iloadN X0.here hx rfl (hb hby d14_53) rfl ?_
          refine X0.laload hx (j := (0 : Int32)) (v := (.long x0)) (by rw [e0]; exact Ar7.1) (State.isArrayOf_alike hZ.alike Ar7.2.1) Ar7.2.2 hin8 hat8 (g := (mkF m 54 #[.val (.ref a1), .val (.int (0 : Int32)), .val (.int (3 : Int32)), .val (.int (0 : Int32)), .val (.int (1 : Int32)), .val (.long x1), .second] [(.int (0 : Int32)), (.ref a1), (.int (1 : Int32)), (.ref a1)])) rfl rfl (hb hby d14_54) _ ?_
          refine st10 _ ?_
          refine XS.goto X10.here hx rfl (pc0 := 56) (pc' := 31) rfl (hb hby d14_56) (by decide) (by decide) ?_
          refine XS.iinc X10.here hx rfl (hb hby d14_31) rfl (l' := #[.val (.ref a1), .val (.int (0 : Int32)), .val (.int (3 : Int32)), .val (.int (-1 : Int32)), .val (.int (1 : Int32)), .val (.long x1), .second]) rfl ?_
          show Steps p.tables e below (T10.setTop (mkF m 34 #[.val (.ref a1), .val (.int (0 : Int32)), .val (.int (3 : Int32)), .val (.int (-1 : Int32)), .val (.int (1 : Int32)), .val (.long x1), .second] [])) _
          refine XS.iloadN X10.here hx rfl (hb hby d14_34) rfl ?_
          refine XS.iloadN X10.here hx rfl (hb hby d14_35) rfl ?_
          refine XS.icmpYes X10.here hx rfl (pc0 := 36) (pc' := 59) rfl (hb hby d14_36) rfl (tlt (by decide)).1 (by decide) (by decide) ?_
          refine XS.aloadN X10.here hx rfl (hb hby d14_59) rfl rfl ?_
          refine XS.iloadN X10.here hx rfl (hb hby d14_60) rfl ?_
          refine XS.iconst X10.here hx rfl (hb hby d14_61) ?_
          refine XS.iadd X10.here hx rfl (hb hby d14_62) rfl ?_
          refine XS.lload X10.here hx rfl (hb hby d14_63) rfl ?_
          refine st12 _ ?_
          refine XS.goto X12.here hx rfl (pc0 := 66) (pc' := 3) rfl (hb hby d14_66) (by decide) (by decide) ?_
          refine XS.iinc X12.here hx rfl (hb hby d14_3) rfl (l' := #[.val (.ref a1), .val (.int (0 : Int32)), .val (.int (3 : Int32)), .val (.int (-1 : Int32)), .val (.int (2 : Int32)), .val (.long x1), .second]) rfl ?_
          refine XS.iload X12.here hx rfl (hb hby d14_6) rfl ?_
          refine XS.iloadN X12.here hx rfl (hb hby d14_8) rfl ?_
          refine XS.icmpNo X12.here hx rfl (hb hby d14_9) rfl (tlt (by decide)).2.1 ?_
          refine XS.aloadN X12.here hx rfl (hb hby d14_12) rfl rfl ?_
          refine XS.iload X12.here hx rfl (hb hby d14_13) rfl ?_
          refine XS.dup X12.here hx rfl (hb hby d14_15) rfl rfl ?_
          refine XS.istoreN X12.here hx rfl (hb hby d14_16) rfl (l' := #[.val (.ref a1), .val (.int (0 : Int32)), .val (.int (3 : Int32)), .val (.int (2 : Int32)), .val (.int (2 : Int32)), .val (.long x1), .second]) rfl ?_
          refine X12.laload hx (j := (2 : Int32)) (v := (.long x2)) (by rw [e12]; exact Ar13.1) (State.isArrayOf_alike hZ.alike Ar13.2.1) Ar13.2.2 hin14 hat14 (g := (mkF m 17 #[.val (.ref a1), .val (.int (0 : Int32)), .val (.int (3 : Int32)), .val (.int (2 : Int32)), .val (.int (2 : Int32)), .val (.long x1), .second] [(.int (2 : Int32)), (.ref a1)])) rfl rfl (hb hby d14_17) _ ?_
          refine XS.lstore X12.here hx rfl (hb hby d14_18) rfl (l' := #[.val (.ref a1), .val (.int (0 : Int32)), .val (.int (3 : Int32)), .val (.int (2 : Int32)), .val (.int (2 : Int32)), .val (.long x2), .second]) rfl ?_
          refine XS.lload X12.here hx rfl (hb hby d14_20) rfl ?_
          refine XS.aloadN X12.here hx rfl (hb hby d14_22) rfl rfl ?_
          refine XS.iloadN X12.here hx rfl (hb hby d14_23) rfl ?_
          refine XS.iconst X12.here hx rfl (hb hby d14_24) ?_
          refine XS.isub X12.here hx rfl (hb hby d14_25) rfl ?_
          refine X12.laload hx (j := (1 : Int32)) (v := (.long x0)) (by rw [e12]; exact Ar15.1) (State.isArrayOf_alike hZ.alike Ar15.2.1) Ar15.2.2 hin16 hat16 (g := (mkF m 26 #[.val (.ref a1), .val (.int (0 : Int32)), .val (.int (3 : Int32)), .val (.int (2 : Int32)), .val (.int (2 : Int32)), .val (.long x2), .second] [(.int (1 : Int32)), (.ref a1), (.long x2)])) rfl rfl (hb hby d14_26) _ ?_
          refine XS.lcmp X12.here hx rfl (hb hby d14_27) rfl ?_
          refine XS.ifNo X12.here hx rfl (hb hby d14_28) rfl ((if0 _ _).trans (tlt (own_lclt hc28_2)).2.1) ?_
          refine XS.iinc X12.here hx rfl (hb hby d14_31) rfl (l' := #[.val (.ref a1), .val (.int (0 : Int32)), .val (.int (3 : Int32)), .val (.int (1 : Int32)), .val (.int (2 : Int32)), .val (.long x2), .second]) rfl ?_
          refine XS.iloadN X12.here hx rfl (hb hby d14_34) rfl ?_
          refine XS.iloadN X12.here hx rfl (hb hby d14_35) rfl ?_
          refine XS.icmpNo X12.here hx rfl (hb hby d14_36) rfl (flt (by decide)).1 ?_
          refine XS.lload X12.here hx rfl (hb hby d14_39) rfl ?_
          refine XS.aloadN X12.here hx rfl (hb hby d14_41) rfl rfl ?_
          refine XS.iloadN X12.here hx rfl (hb hby d14_42) rfl ?_
          refine X12.laload hx (j := (1 : Int32)) (v := (.long x0)) (by rw [e12]; exact Ar17.1) (State.isArrayOf_alike hZ.alike Ar17.2.1) Ar17.2.2 hin18 hat18 (g := (mkF m 43 #[.val (.ref a1), .val (.int (0 : Int32)), .val (.int (3 : Int32)), .val (.int (1 : Int32)), .val (.int (2 : Int32)), .val (.long x2), .second] [(.int (1 : Int32)), (.ref a1), (.long x2)])) rfl rfl (hb hby d14_43) _ ?_
          refine XS.lcmp X12.here hx rfl (hb hby d14_44) rfl ?_
          refine XS.ifNo X12.here hx rfl (hb hby d14_45) rfl ((if0 _ _).trans (tlt (own_lclt hc28_2)).2.1) ?_
          refine XS.aloadN X12.here hx rfl (hb hby d14_48) rfl rfl ?_
          refine XS.iloadN X12.here hx rfl (hb hby d14_49) rfl ?_
          show Steps p.tables e below (T12.setTop (mkF m 50 #[.val (.ref a1), .val (.int (0 : Int32)), .val (.int (3 : Int32)), .val (.int (1 : Int32)), .val (.int (2 : Int32)), .val (.long x2), .second] [(.int (1 : Int32)), (.ref a1)])) _
          refine XS.iconst X12.here hx rfl (hb hby d14_50) ?_
          refine XS.iadd X12.here hx rfl (hb hby d14_51) rfl ?_
          refine XS.aloadN X12.here hx rfl (hb hby d14_52) rfl rfl ?_
          refine XS.iloadN X12.here hx rfl (hb hby d14_53) rfl ?_
          refine X12.laload hx (j := (1 : Int32)) (v := (.long x0)) (by rw [e12]; exact Ar19.1) (State.isArrayOf_alike hZ.alike Ar19.2.1) Ar19.2.2 hin20 hat20 (g := (mkF m 54 #[.val (.ref a1), .val (.int (0 : Int32)), .val (.int (3 : Int32)), .val (.int (1 : Int32)), .val (.int (2 : Int32)), .val (.long x2), .second] [(.int (1 : Int32)), (.ref a1), (.int (2 : Int32)), (.ref a1)])) rfl rfl (hb hby d14_54) _ ?_
          refine st22 _ ?_
          refine XS.goto X22.here hx rfl (pc0 := 56) (pc' := 31) rfl (hb hby d14_56) (by decide) (by decide) ?_
          refine XS.iinc X22.here hx rfl (hb hby d14_31) rfl (l' := #[.val (.ref a1), .val (.int (0 : Int32)), .val (.int (3 : Int32)), .val (.int (0 : Int32)), .val (.int (2 : Int32)), .val (.long x2), .second]) rfl ?_
          refine XS.iloadN X22.here hx rfl (hb hby d14_34) rfl ?_
          refine XS.iloadN X22.here hx rfl (hb hby d14_35) rfl ?_
          refine XS.icmpNo X22.here hx rfl (hb hby d14_36) rfl (flt (by decide)).1 ?_
          refine XS.lload X22.here hx rfl (hb hby d14_39) rfl ?_
          refine XS.aloadN X22.here hx rfl (hb hby d14_41) rfl rfl ?_
          refine XS.iloadN X22.here hx rfl (hb hby d14_42) rfl ?_
          refine X22.laload hx (j := (0 : Int32)) (v := (.long x1)) (by rw [e22]; exact Ar23.1) (State.isArrayOf_alike hZ.alike Ar23.2.1) Ar23.2.2 hin24 hat24 (g := (mkF m 43 #[.val (.ref a1), .val (.int (0 : Int32)), .val (.int (3 : Int32)), .val (.int (0 : Int32)), .val (.int (2 : Int32)), .val (.long x2), .second] [(.int (0 : Int32)), (.ref a1), (.long x2)])) rfl rfl (hb hby d14_43) _ ?_
          refine XS.lcmp X22.here hx rfl (hb hby d14_44) rfl ?_
          refine XS.ifYes X22.here hx rfl (pc0 := 45) (pc' := 59) rfl (hb hby d14_45) rfl ((if0 _ _).trans (flt (own_lcnlt hc45_3)).2.1) (by decide) (by decide) ?_
          refine XS.aloadN X22.here hx rfl (hb hby d14_59) rfl rfl ?_
          refine XS.iloadN X22.here hx rfl (hb hby d14_60) rfl ?_
          refine XS.iconst X22.here hx rfl (hb hby d14_61) ?_
          refine XS.iadd X22.here hx rfl (hb hby d14_62) rfl ?_
          refine XS.lload X22.here hx rfl (hb hby d14_63) rfl ?_
          refine st32 _ ?_
          refine XS.goto X32.here hx rfl (pc0 := 66) (pc' := 3) rfl (hb hby d14_66) (by decide) (by decide) ?_
          refine XS.iinc X32.here hx rfl (hb hby d14_3) rfl (l' := #[.val (.ref a1), .val (.int (0 : Int32)), .val (.int (3 : Int32)), .val (.int (0 : Int32)), .val (.int (3 : Int32)), .val (.long x2), .second]) rfl ?_
          refine XS.iload X32.here hx rfl (hb hby d14_6) rfl ?_
          refine XS.iloadN X32.here hx rfl (hb hby d14_8) rfl ?_
          refine XS.icmpYes X32.here hx rfl (pc0 := 9) (pc' := 69) rfl (hb hby d14_9) rfl (flt (by decide)).2.1 (by decide) (by decide) ?_
          show Steps p.tables e below (T32.setTop (mkF m 69 #[.val (.ref a1), .val (.int (0 : Int32)), .val (.int (3 : Int32)), .val (.int (0 : Int32)), .val (.int (3 : Int32)), .val (.long x2), .second] [])) _
          exact X32.returnOut hx Bd.returns (hb hby d14_69) hr
        · show Qrmi3 Z a1 k x0 x1 x2 h0 n0 _ T32.heap _
          rw [e32]
          exact ⟨rfl, N32, K32, x1, x2, x0, V32, ⟨hc45_3, (own_ltN hc28_2)⟩, (Or.inr (Or.inr (Or.inr (Or.inl ⟨rfl, rfl, rfl⟩))))⟩
    · obtain ⟨fs, hr, hrun, hended, hW, hsame⟩ := X12.leave (v := none) (fun _ => rfl) (BodyLoose.notSynchronized Bd)
      refine ⟨_, _, pre0 _ ?_, hrun, hended, _, _, rfl, ?_, ⟨_, rfl⟩, hW, hsame.mono (by decide) (by decide)⟩
      · show Steps p.tables e below (s₁.setTop (mkF m 0 #[.val (.ref a1), .val (.int (0 : Int32)), .val (.int (3 : Int32)), .unset, .unset, .unset, .unset] [])) _
        refine XS.iloadN X0.here hx rfl (hb hby d14_0) rfl ?_
        refine XS.istore X0.here hx rfl (hb hby d14_1) rfl (l' := #[.val (.ref a1), .val (.int (0 : Int32)), .val (.int (3 : Int32)), .unset, .val (.int (0 : Int32)), .unset, .unset]) rfl ?_
        refine XS.iinc X0.here hx rfl (hb hby d14_3) rfl (l' := #[.val (.ref a1), .val (.int (0 : Int32)), .val (.int (3 : Int32)), .unset, .val (.int (1 : Int32)), .unset, .unset]) rfl ?_
        refine XS.iload X0.here hx rfl (hb hby d14_6) rfl ?_
        refine XS.iloadN X0.here hx rfl (hb hby d14_8) rfl ?_
        refine XS.icmpNo X0.here hx rfl (hb hby d14_9) rfl (tlt (by decide)).2.1 ?_
        refine XS.aloadN X0.here hx rfl (hb hby d14_12) rfl rfl ?_
        refine XS.iload X0.here hx rfl (hb hby d14_13) rfl ?_
        refine XS.dup X0.here hx rfl (hb hby d14_15) rfl rfl ?_
        refine XS.istoreN X0.here hx rfl (hb hby d14_16) rfl (l' := #[.val (.ref a1), .val (.int (0 : Int32)), .val (.int (3 : Int32)), .val (.int (1 : Int32)), .val (.int (1 : Int32)), .unset, .unset]) rfl ?_
        refine X0.laload hx (j := (1 : Int32)) (v := (.long x1)) (by rw [e0]; exact Ar1.1) (State.isArrayOf_alike hZ.alike Ar1.2.1) Ar1.2.2 hin2 hat2 (g := (mkF m 17 #[.val (.ref a1), .val (.int (0 : Int32)), .val (.int (3 : Int32)), .val (.int (1 : Int32)), .val (.int (1 : Int32)), .unset, .unset] [(.int (1 : Int32)), (.ref a1)])) rfl rfl (hb hby d14_17) _ ?_
        refine XS.lstore X0.here hx rfl (hb hby d14_18) rfl (l' := #[.val (.ref a1), .val (.int (0 : Int32)), .val (.int (3 : Int32)), .val (.int (1 : Int32)), .val (.int (1 : Int32)), .val (.long x1), .second]) rfl ?_
        refine XS.lload X0.here hx rfl (hb hby d14_20) rfl ?_
        refine XS.aloadN X0.here hx rfl (hb hby d14_22) rfl rfl ?_
        refine XS.iloadN X0.here hx rfl (hb hby d14_23) rfl ?_
        refine XS.iconst X0.here hx rfl (hb hby d14_24) ?_
        refine XS.isub X0.here hx rfl (hb hby d14_25) rfl ?_
        refine X0.laload hx (j := (0 : Int32)) (v := (.long x0)) (by rw [e0]; exact Ar3.1) (State.isArrayOf_alike hZ.alike Ar3.2.1) Ar3.2.2 hin4 hat4 (g := (mkF m 26 #[.val (.ref a1), .val (.int (0 : Int32)), .val (.int (3 : Int32)), .val (.int (1 : Int32)), .val (.int (1 : Int32)), .val (.long x1), .second] [(.int (0 : Int32)), (.ref a1), (.long x1)])) rfl rfl (hb hby d14_26) _ ?_
        refine XS.lcmp X0.here hx rfl (hb hby d14_27) rfl ?_
        refine XS.ifNo X0.here hx rfl (hb hby d14_28) rfl ((if0 _ _).trans (tlt (own_lclt hc28)).2.1) ?_
        refine XS.iinc X0.here hx rfl (hb hby d14_31) rfl (l' := #[.val (.ref a1), .val (.int (0 : Int32)), .val (.int (3 : Int32)), .val (.int (0 : Int32)), .val (.int (1 : Int32)), .val (.long x1), .second]) rfl ?_
        refine XS.iloadN X0.here hx rfl (hb hby d14_34) rfl ?_
        refine XS.iloadN X0.here hx rfl (hb hby d14_35) rfl ?_
        refine XS.icmpNo X0.here hx rfl (hb hby d14_36) rfl (flt (by decide)).1 ?_
        refine XS.lload X0.here hx rfl (hb hby d14_39) rfl ?_
        refine XS.aloadN X0.here hx rfl (hb hby d14_41) rfl rfl ?_
        refine XS.iloadN X0.here hx rfl (hb hby d14_42) rfl ?_
        refine X0.laload hx (j := (0 : Int32)) (v := (.long x0)) (by rw [e0]; exact Ar5.1) (State.isArrayOf_alike hZ.alike Ar5.2.1) Ar5.2.2 hin6 hat6 (g := (mkF m 43 #[.val (.ref a1), .val (.int (0 : Int32)), .val (.int (3 : Int32)), .val (.int (0 : Int32)), .val (.int (1 : Int32)), .val (.long x1), .second] [(.int (0 : Int32)), (.ref a1), (.long x1)])) rfl rfl (hb hby d14_43) _ ?_
        refine XS.lcmp X0.here hx rfl (hb hby d14_44) rfl ?_
        refine XS.ifNo X0.here hx rfl (hb hby d14_45) rfl ((if0 _ _).trans (tlt (own_lclt hc28)).2.1) ?_
        refine XS.aloadN X0.here hx rfl (hb hby d14_48) rfl rfl ?_
        refine XS.iloadN X0.here hx rfl (hb hby d14_49) rfl ?_
        refine XS.iconst X0.here hx rfl (hb hby d14_50) ?_
        refine XS.iadd X0.here hx rfl (hb hby d14_51) rfl ?_
        refine XS.aloadN X0.here hx rfl (hb hby d14_52) rfl rfl ?_
        refine XS.iloadN X0.here hx rfl (hb hby d14_53) rfl ?_
        refine X0.laload hx (j := (0 : Int32)) (v := (.long x0)) (by rw [e0]; exact Ar7.1) (State.isArrayOf_alike hZ.alike Ar7.2.1) Ar7.2.2 hin8 hat8 (g := (mkF m 54 #[.val (.ref a1), .val (.int (0 : Int32)), .val (.int (3 : Int32)), .val (.int (0 : Int32)), .val (.int (1 : Int32)), .val (.long x1), .second] [(.int (0 : Int32)), (.ref a1), (.int (1 : Int32)), (.ref a1)])) rfl rfl (hb hby d14_54) _ ?_
        refine st10 _ ?_
        refine XS.goto X10.here hx rfl (pc0 := 56) (pc' := 31) rfl (hb hby d14_56) (by decide) (by decide) ?_
        refine XS.iinc X10.here hx rfl (hb hby d14_31) rfl (l' := #[.val (.ref a1), .val (.int (0 : Int32)), .val (.int (3 : Int32)), .val (.int (-1 : Int32)), .val (.int (1 : Int32)), .val (.long x1), .second]) rfl ?_
        show Steps p.tables e below (T10.setTop (mkF m 34 #[.val (.ref a1), .val (.int (0 : Int32)), .val (.int (3 : Int32)), .val (.int (-1 : Int32)), .val (.int (1 : Int32)), .val (.long x1), .second] [])) _
        refine XS.iloadN X10.here hx rfl (hb hby d14_34) rfl ?_
        refine XS.iloadN X10.here hx rfl (hb hby d14_35) rfl ?_
        refine XS.icmpYes X10.here hx rfl (pc0 := 36) (pc' := 59) rfl (hb hby d14_36) rfl (tlt (by decide)).1 (by decide) (by decide) ?_
        refine XS.aloadN X10.here hx rfl (hb hby d14_59) rfl rfl ?_
        refine XS.iloadN X10.here hx rfl (hb hby d14_60) rfl ?_
        refine XS.iconst X10.here hx rfl (hb hby d14_61) ?_
        refine XS.iadd X10.here hx rfl (hb hby d14_62) rfl ?_
        refine XS.lload X10.here hx rfl (hb hby d14_63) rfl ?_
        refine st12 _ ?_
        refine XS.goto X12.here hx rfl (pc0 := 66) (pc' := 3) rfl (hb hby d14_66) (by decide) (by decide) ?_
        refine XS.iinc X12.here hx rfl (hb hby d14_3) rfl (l' := #[.val (.ref a1), .val (.int (0 : Int32)), .val (.int (3 : Int32)), .val (.int (-1 : Int32)), .val (.int (2 : Int32)), .val (.long x1), .second]) rfl ?_
        refine XS.iload X12.here hx rfl (hb hby d14_6) rfl ?_
        refine XS.iloadN X12.here hx rfl (hb hby d14_8) rfl ?_
        refine XS.icmpNo X12.here hx rfl (hb hby d14_9) rfl (tlt (by decide)).2.1 ?_
        refine XS.aloadN X12.here hx rfl (hb hby d14_12) rfl rfl ?_
        refine XS.iload X12.here hx rfl (hb hby d14_13) rfl ?_
        refine XS.dup X12.here hx rfl (hb hby d14_15) rfl rfl ?_
        refine XS.istoreN X12.here hx rfl (hb hby d14_16) rfl (l' := #[.val (.ref a1), .val (.int (0 : Int32)), .val (.int (3 : Int32)), .val (.int (2 : Int32)), .val (.int (2 : Int32)), .val (.long x1), .second]) rfl ?_
        refine X12.laload hx (j := (2 : Int32)) (v := (.long x2)) (by rw [e12]; exact Ar13.1) (State.isArrayOf_alike hZ.alike Ar13.2.1) Ar13.2.2 hin14 hat14 (g := (mkF m 17 #[.val (.ref a1), .val (.int (0 : Int32)), .val (.int (3 : Int32)), .val (.int (2 : Int32)), .val (.int (2 : Int32)), .val (.long x1), .second] [(.int (2 : Int32)), (.ref a1)])) rfl rfl (hb hby d14_17) _ ?_
        refine XS.lstore X12.here hx rfl (hb hby d14_18) rfl (l' := #[.val (.ref a1), .val (.int (0 : Int32)), .val (.int (3 : Int32)), .val (.int (2 : Int32)), .val (.int (2 : Int32)), .val (.long x2), .second]) rfl ?_
        refine XS.lload X12.here hx rfl (hb hby d14_20) rfl ?_
        refine XS.aloadN X12.here hx rfl (hb hby d14_22) rfl rfl ?_
        refine XS.iloadN X12.here hx rfl (hb hby d14_23) rfl ?_
        refine XS.iconst X12.here hx rfl (hb hby d14_24) ?_
        refine XS.isub X12.here hx rfl (hb hby d14_25) rfl ?_
        refine X12.laload hx (j := (1 : Int32)) (v := (.long x0)) (by rw [e12]; exact Ar15.1) (State.isArrayOf_alike hZ.alike Ar15.2.1) Ar15.2.2 hin16 hat16 (g := (mkF m 26 #[.val (.ref a1), .val (.int (0 : Int32)), .val (.int (3 : Int32)), .val (.int (2 : Int32)), .val (.int (2 : Int32)), .val (.long x2), .second] [(.int (1 : Int32)), (.ref a1), (.long x2)])) rfl rfl (hb hby d14_26) _ ?_
        refine XS.lcmp X12.here hx rfl (hb hby d14_27) rfl ?_
        refine XS.ifYes X12.here hx rfl (pc0 := 28) (pc' := 66) rfl (hb hby d14_28) rfl ((if0 _ _).trans (flt (own_lcnlt hc28_2)).2.1) (by decide) (by decide) ?_
        refine XS.goto X12.here hx rfl (pc0 := 66) (pc' := 3) rfl (hb hby d14_66) (by decide) (by decide) ?_
        refine XS.iinc X12.here hx rfl (hb hby d14_3) rfl (l' := #[.val (.ref a1), .val (.int (0 : Int32)), .val (.int (3 : Int32)), .val (.int (2 : Int32)), .val (.int (3 : Int32)), .val (.long x2), .second]) rfl ?_
        refine XS.iload X12.here hx rfl (hb hby d14_6) rfl ?_
        refine XS.iloadN X12.here hx rfl (hb hby d14_8) rfl ?_
        refine XS.icmpYes X12.here hx rfl (pc0 := 9) (pc' := 69) rfl (hb hby d14_9) rfl (flt (by decide)).2.1 (by decide) (by decide) ?_
        show Steps p.tables e below (T12.setTop (mkF m 69 #[.val (.ref a1), .val (.int (0 : Int32)), .val (.int (3 : Int32)), .val (.int (2 : Int32)), .val (.int (3 : Int32)), .val (.long x2), .second] [])) _
        exact X12.returnOut hx Bd.returns (hb hby d14_69) hr
      · show Qrmi3 Z a1 k x0 x1 x2 h0 n0 _ T12.heap _
        rw [e12]
        exact ⟨rfl, N12, K12, x1, x0, x2, V12, ⟨(own_ltN hc28), hc28_2⟩, (Or.inr (Or.inr (Or.inl ⟨rfl, rfl, rfl⟩)))⟩
  · obtain ⟨cl33, Ar33, qk33, Sz33, Nn33, Hh33, Gg33⟩ := id (A)
    have hin34 : ¬ ((2 : Int32) < 0 ∨ cl33.slots.size ≤ ((2 : Int32)).toNatClampNeg) := inb_of Sz33 ⟨by decide, by decide⟩
    have hat34 : cl33.slots[((2 : Int32)).toNatClampNeg]? = some (.long x2) := Has.at Hh33 hin34 rfl
    obtain ⟨cl35, Ar35, qk35, Sz35, Nn35, Hh35, Gg35⟩ := id (A)
    have hin36 : ¬ ((1 : Int32) < 0 ∨ cl35.slots.size ≤ ((1 : Int32)).toNatClampNeg) := inb_of Sz35 ⟨by decide, by decide⟩
    have hat36 : cl35.slots[((1 : Int32)).toNatClampNeg]? = some (.long x1) := Has.at Hh35 hin36 rfl
    by_cases hc28_2 : x2 < x1
    · obtain ⟨cl37, Ar37, qk37, Sz37, Nn37, Hh37, Gg37⟩ := id (A)
      have hin38 : ¬ ((1 : Int32) < 0 ∨ cl37.slots.size ≤ ((1 : Int32)).toNatClampNeg) := inb_of Sz37 ⟨by decide, by decide⟩
      have hat38 : cl37.slots[((1 : Int32)).toNatClampNeg]? = some (.long x1) := Has.at Hh37 hin38 rfl
      obtain ⟨cl39, Ar39, qk39, Sz39, Nn39, Hh39, Gg39⟩ := id (A)
      have hin40 : ¬ ((1 : Int32) < 0 ∨ cl39.slots.size ≤ ((1 : Int32)).toNatClampNeg) := inb_of Sz39 ⟨by decide, by decide⟩
      have hat40 : cl39.slots[((1 : Int32)).toNatClampNeg]? = some (.long x1) := Has.at Hh39 hin40 rfl
      obtain ⟨cl41, Ar41, qk41, Sz41, Nn41, Hh41, Gg41⟩ := id (A)
      have hin42 : ¬ ((2 : Int32) < 0 ∨ cl41.slots.size ≤ ((2 : Int32)).toNatClampNeg) := inb_of Sz41 ⟨by decide, by decide⟩
      obtain ⟨T42, h42, X42, e42, W42, st42⟩ := stJ X0 hx hZ e0 Ar41 (j := (2 : Int32)) hin42  (g := (mkF m 55 #[.val (.ref a1), .val (.int (0 : Int32)), .val (.int (3 : Int32)), .val (.int (1 : Int32)), .val (.int (2 : Int32)), .val (.long x2), .second] [(.long x1), (.int (2 : Int32)), (.ref a1)])) rfl rfl (hb hby d14_55)
      have N42 := Fr.snoc X42 N0 ga
      have Z42 : n0 ≤ h42.size := by rw [W42.size]; exact Z0
      have K42 : Keep h0 h42 [a1] := (Keep.refl h0 [a1]).wr W42 (Or.inl (own_w 0 rfl))
      have V42 : Arv Z h42 a1 k .long (3 : Int32) [(.long x0), (.long x1), (.long x1)] (.long (0 : Int64)) := Arv.set Ar41 qk41 Sz41 Nn41 Hh41 Gg41 rfl W42 2 rfl (Nat.le_of_ble_eq_true rfl)
      obtain ⟨cl43, Ar43, qk43, Sz43, Nn43, Hh43, Gg43⟩ := id (V42)
      have hin44 : ¬ ((0 : Int32) < 0 ∨ cl43.slots.size ≤ ((0 : Int32)).toNatClampNeg) := inb_of Sz43 ⟨by decide, by decide⟩
      have hat44 : cl43.slots[((0 : Int32)).toNatClampNeg]? = some (.long x0) := Has.at Hh43 hin44 rfl
      by_cases hc45_2 : x2 < x0
      · obtain ⟨cl45, Ar45, qk45, Sz45, Nn45, Hh45, Gg45⟩ := id (V42)
        have hin46 : ¬ ((0 : Int32) < 0 ∨ cl45.slots.size ≤ ((0 : Int32)).toNatClampNeg) := inb_of Sz45 ⟨by decide, by decide⟩
        have hat46 : cl45.slots[((0 : Int32)).toNatClampNeg]? = some (.long x0) := Has.at Hh45 hin46 rfl
        obtain ⟨cl47, Ar47, qk47, Sz47, Nn47, Hh47, Gg47⟩ := id (V42)
        have hin48 : ¬ ((1 : Int32) < 0 ∨ cl47.slots.size ≤ ((1 : Int32)).toNatClampNeg) := inb_of Sz47 ⟨by decide, by decide⟩
        obtain ⟨T48, h48, X48, e48, W48, st48⟩ := stJ X42 hx hZ e42 Ar47 (j := (1 : Int32)) hin48  (g := (mkF m 55 #[.val (.ref a1), .val (.int (0 : Int32)), .val (.int (3 : Int32)), .val (.int (0 : Int32)), .val (.int (2 : Int32)), .val (.long x2), .second] [(.long x0), (.int (1 : Int32)), (.ref a1)])) rfl rfl (hb hby d14_55)
        have N48 := Fr.snoc X48 N42 ga
        have Z48 : n0 ≤ h48.size := by rw [W48.size]; exact Z42
        have K48 : Keep h0 h48 [a1] := K42.wr W48 (Or.inl (own_w 0 rfl))
        have V48 : Arv Z h48 a1 k .long (3 : Int32) [(.long x0), (.long x0), (.long x1)] (.long (0 : Int64)) := Arv.set Ar47 qk47 Sz47 Nn47 Hh47 Gg47 rfl W48 1 rfl (Nat.le_of_ble_eq_true rfl)
        obtain ⟨cl49, Ar49, qk49, Sz49, Nn49, Hh49, Gg49⟩ := id (V48)
        have hin50 : ¬ ((0 : Int32) < 0 ∨ cl49.slots.size ≤ ((0 : Int32)).toNatClampNeg) := inb_of Sz49 ⟨by decide, by decide⟩
        obtain ⟨T50, h50, X50, e50, W50, st50⟩ := stJ X48 hx hZ e48 Ar49 (j := (0 : Int32)) hin50  (g := (mkF m 65 #[.val (.ref a1), .val (.int (0 : Int32)), .val (.int (3 : Int32)), .val (.int (-1 : Int32)), .val (.int (2 : Int32)), .val (.long x2), .second] [(.long x2), (.int (0 : Int32)), (.ref a1)])) rfl rfl (hb hby d14_65)
        have N50 := Fr.snoc X50 N48 ga
        have Z50 : n0 ≤ h50.size := by rw [W50.size]; exact Z48
        have K50 : Keep h0 h50 [a1] := K48.wr W50 (Or.inl (own_w 0 rfl))
        have V50 : Arv Z h50 a1 k .long (3 : Int32) [(.long x2), (.long x0), (.long x1)] (.long (0 : Int64)) := Arv.set Ar49 qk49 Sz49 Nn49 Hh49 Gg49 rfl W50 0 rfl (Nat.le_of_ble_eq_true rfl)
        obtain ⟨fs, hr, hrun, hended, hW, hsame⟩ := X50.leave (v := none) (fun _ => rfl) (BodyLoose.notSynchronized Bd)
        refine ⟨_, _, pre0 _ ?_, hrun, hended, _, _, rfl, ?_, ⟨_, rfl⟩, hW, hsame.mono (by decide) (by decide)⟩
        · show Steps p.tables e below (s₁.setTop (mkF m 0 #[.val (.ref a1), .val (.int (0 : Int32)), .val (.int (3 : Int32)), .unset, .unset, .unset, .unset] [])) _
          refine XS.iloadN X0.here hx rfl (hb hby d14_0) rfl ?_
          refine XS.istore X0.here hx rfl (hb hby d14_1) rfl (l' := #[.val (.ref a1), .val (.int (0 : Int32)), .val (.int (3 : Int32)), .unset, .val (.int (0 : Int32)), .unset, .unset]) rfl ?_
          refine XS.iinc X0.here hx rfl (hb hby d14_3) rfl (l' := #[.val (.ref a1), .val (.int (0 : Int32)), .val (.int (3 : Int32)), .unset, .val (.int (1 : Int32)), .unset, .unset]) rfl ?_
          refine XS.iload X0.here hx rfl (hb hby d14_6) rfl ?_
          refine XS.iloadN X0.here hx rfl (hb hby d14_8) rfl ?_
          refine XS.icmpNo X0.here hx rfl (hb hby d14_9) rfl (tlt (by decide)).2.1 ?_
          refine XS.aloadN X0.here hx rfl (hb hby d14_12) rfl rfl ?_
          refine XS.iload X0.here hx rfl (hb hby d14_13) rfl ?_
          refine XS.dup X0.here hx rfl (hb hby d14_15) rfl rfl ?_
          refine XS.istoreN X0.here hx rfl (hb hby d14_16) rfl (l' := #[.val (.ref a1), .val (.int (0 : Int32)), .val (.int (3 : Int32)), .val (.int (1 : Int32)), .val (.int (1 : Int32)), .unset, .unset]) rfl ?_
          refine X0.laload hx (j := (1 : Int32)) (v := (.long x1)) (by rw [e0]; exact Ar1.1) (State.isArrayOf_alike hZ.alike Ar1.2.1) Ar1.2.2 hin2 hat2 (g := (mkF m 17 #[.val (.ref a1), .val (.int (0 : Int32)), .val (.int (3 : Int32)), .val (.int (1 : Int32)), .val (.int (1 : Int32)), .unset, .unset] [(.int (1 : Int32)), (.ref a1)])) rfl rfl (hb hby d14_17) _ ?_
          refine XS.lstore X0.here hx rfl (hb hby d14_18) rfl (l' := #[.val (.ref a1), .val (.int (0 : Int32)), .val (.int (3 : Int32)), .val (.int (1 : Int32)), .val (.int (1 : Int32)), .val (.long x1), .second]) rfl ?_
          refine XS.lload X0.here hx rfl (hb hby d14_20) rfl ?_
          refine XS.aloadN X0.here hx rfl (hb hby d14_22) rfl rfl ?_
          refine XS.iloadN X0.here hx rfl (hb hby d14_23) rfl ?_
          refine XS.iconst X0.here hx rfl (hb hby d14_24) ?_
          refine XS.isub X0.here hx rfl (hb hby d14_25) rfl ?_
          refine X0.laload hx (j := (0 : Int32)) (v := (.long x0)) (by rw [e0]; exact Ar3.1) (State.isArrayOf_alike hZ.alike Ar3.2.1) Ar3.2.2 hin4 hat4 (g := (mkF m 26 #[.val (.ref a1), .val (.int (0 : Int32)), .val (.int (3 : Int32)), .val (.int (1 : Int32)), .val (.int (1 : Int32)), .val (.long x1), .second] [(.int (0 : Int32)), (.ref a1), (.long x1)])) rfl rfl (hb hby d14_26) _ ?_
          refine XS.lcmp X0.here hx rfl (hb hby d14_27) rfl ?_
          refine XS.ifYes X0.here hx rfl (pc0 := 28) (pc' := 66) rfl (hb hby d14_28) rfl ((if0 _ _).trans (flt (own_lcnlt hc28)).2.1) (by decide) (by decide) ?_
          refine XS.goto X0.here hx rfl (pc0 := 66) (pc' := 3) rfl (hb hby d14_66) (by decide) (by decide) ?_
          refine XS.iinc X0.here hx rfl (hb hby d14_3) rfl (l' := #[.val (.ref a1), .val (.int (0 : Int32)), .val (.int (3 : Int32)), .val (.int (1 : Int32)), .val (.int (2 : Int32)), .val (.long x1), .second]) rfl ?_
          refine XS.iload X0.here hx rfl (hb hby d14_6) rfl ?_
          refine XS.iloadN X0.here hx rfl (hb hby d14_8) rfl ?_
          refine XS.icmpNo X0.here hx rfl (hb hby d14_9) rfl (tlt (by decide)).2.1 ?_
          refine XS.aloadN X0.here hx rfl (hb hby d14_12) rfl rfl ?_
          refine XS.iload X0.here hx rfl (hb hby d14_13) rfl ?_
          refine XS.dup X0.here hx rfl (hb hby d14_15) rfl rfl ?_
          refine XS.istoreN X0.here hx rfl (hb hby d14_16) rfl (l' := #[.val (.ref a1), .val (.int (0 : Int32)), .val (.int (3 : Int32)), .val (.int (2 : Int32)), .val (.int (2 : Int32)), .val (.long x1), .second]) rfl ?_
          refine X0.laload hx (j := (2 : Int32)) (v := (.long x2)) (by rw [e0]; exact Ar33.1) (State.isArrayOf_alike hZ.alike Ar33.2.1) Ar33.2.2 hin34 hat34 (g := (mkF m 17 #[.val (.ref a1), .val (.int (0 : Int32)), .val (.int (3 : Int32)), .val (.int (2 : Int32)), .val (.int (2 : Int32)), .val (.long x1), .second] [(.int (2 : Int32)), (.ref a1)])) rfl rfl (hb hby d14_17) _ ?_
          refine XS.lstore X0.here hx rfl (hb hby d14_18) rfl (l' := #[.val (.ref a1), .val (.int (0 : Int32)), .val (.int (3 : Int32)), .val (.int (2 : Int32)), .val (.int (2 : Int32)), .val (.long x2), .second]) rfl ?_
          refine XS.lload X0.here hx rfl (hb hby d14_20) rfl ?_
          refine XS.aloadN X0.here hx rfl (hb hby d14_22) rfl rfl ?_
          refine XS.iloadN X0.here hx rfl (hb hby d14_23) rfl ?_
          refine XS.iconst X0.here hx rfl (hb hby d14_24) ?_
          refine XS.isub X0.here hx rfl (hb hby d14_25) rfl ?_
          refine X0.laload hx (j := (1 : Int32)) (v := (.long x1)) (by rw [e0]; exact Ar35.1) (State.isArrayOf_alike hZ.alike Ar35.2.1) Ar35.2.2 hin36 hat36 (g := (mkF m 26 #[.val (.ref a1), .val (.int (0 : Int32)), .val (.int (3 : Int32)), .val (.int (2 : Int32)), .val (.int (2 : Int32)), .val (.long x2), .second] [(.int (1 : Int32)), (.ref a1), (.long x2)])) rfl rfl (hb hby d14_26) _ ?_
          refine XS.lcmp X0.here hx rfl (hb hby d14_27) rfl ?_
          refine XS.ifNo X0.here hx rfl (hb hby d14_28) rfl ((if0 _ _).trans (tlt (own_lclt hc28_2)).2.1) ?_
          refine XS.iinc X0.here hx rfl (hb hby d14_31) rfl (l' := #[.val (.ref a1), .val (.int (0 : Int32)), .val (.int (3 : Int32)), .val (.int (1 : Int32)), .val (.int (2 : Int32)), .val (.long x2), .second]) rfl ?_
          show Steps p.tables e below (s₁.setTop (mkF m 34 #[.val (.ref a1), .val (.int (0 : Int32)), .val (.int (3 : Int32)), .val (.int (1 : Int32)), .val (.int (2 : Int32)), .val (.long x2), .second] [])) _
          refine XS.iloadN X0.here hx rfl (hb hby d14_34) rfl ?_
          refine XS.iloadN X0.here hx rfl (hb hby d14_35) rfl ?_
          refine XS.icmpNo X0.here hx rfl (hb hby d14_36) rfl (flt (by decide)).1 ?_
          refine XS.lload X0.here hx rfl (hb hby d14_39) rfl ?_
          refine XS.aloadN X0.here hx rfl (hb hby d14_41) rfl rfl ?_
          refine XS.iloadN X0.here hx rfl (hb hby d14_42) rfl ?_
          refine X0.laload hx (j := (1 : Int32)) (v := (.long x1)) (by rw [e0]; exact Ar37.1) (State.isArrayOf_alike hZ.alike Ar37.2.1) Ar37.2.2 hin38 hat38 (g := (mkF m 43 #[.val (.ref a1), .val (.int (0 : Int32)), .val (.int (3 : Int32)), .val (.int (1 : Int32)), .val (.int (2 : Int32)), .val (.long x2), .second] [(.int (1 : Int32)), (.ref a1), (.long x2)])) rfl rfl (hb hby d14_43) _ ?_
          refine XS.lcmp X0.here hx rfl (hb hby d14_44) rfl ?_
          refine XS.ifNo X0.here hx rfl (hb hby d14_45) rfl ((if0 _ _).trans (tlt (own_lclt hc28_2)).2.1) ?_
          refine XS.aloadN X0.here hx rfl (hb hby d14_48) rfl rfl ?_
          refine XS.iloadN X0.here hx rfl (hb hby d14_49) rfl ?_
          refine XS.iconst X0.here hx rfl (hb hby d14_50) ?_
          refine XS.iadd X0.here hx rfl (hb hby d14_51) rfl ?_
          refine XS.aloadN X0.here hx rfl (hb hby d14_52) rfl rfl ?_
          refine XS.iloadN X0.here hx rfl (hb hby d14_53) rfl ?_
          refine X0.laload hx (j := (1 : Int32)) (v := (.long x1)) (by rw [e0]; exact Ar39.1) (State.isArrayOf_alike hZ.alike Ar39.2.1) Ar39.2.2 hin40 hat40 (g := (mkF m 54 #[.val (.ref a1), .val (.int (0 : Int32)), .val (.int (3 : Int32)), .val (.int (1 : Int32)), .val (.int (2 : Int32)), .val (.long x2), .second] [(.int (1 : Int32)), (.ref a1), (.int (2 : Int32)), (.ref a1)])) rfl rfl (hb hby d14_54) _ ?_
          refine st42 _ ?_
          refine XS.goto X42.here hx rfl (pc0 := 56) (pc' := 31) rfl (hb hby d14_56) (by decide) (by decide) ?_
          refine XS.iinc X42.here hx rfl (hb hby d14_31) rfl (l' := #[.val (.ref a1), .val (.int (0 : Int32)), .val (.int (3 : Int32)), .val (.int (0 : Int32)), .val (.int (2 : Int32)), .val (.long x2), .second]) rfl ?_
          refine XS.iloadN X42.here hx rfl (hb hby d14_34) rfl ?_
          refine XS.iloadN X42.here hx rfl (hb hby d14_35) rfl ?_
          refine XS.icmpNo X42.here hx rfl (hb hby d14_36) rfl (flt (by decide)).1 ?_
          refine XS.lload X42.here hx rfl (hb hby d14_39) rfl ?_
          refine XS.aloadN X42.here hx rfl (hb hby d14_41) rfl rfl ?_
          refine XS.iloadN X42.here hx rfl (hb hby d14_42) rfl ?_
          refine X42.laload hx (j := (0 : Int32)) (v := (.long x0)) (by rw [e42]; exact Ar43.1) (State.isArrayOf_alike hZ.alike Ar43.2.1) Ar43.2.2 hin44 hat44 (g := (mkF m 43 #[.val (.ref a1), .val (.int (0 : Int32)), .val (.int (3 : Int32)), .val (.int (0 : Int32)), .val (.int (2 : Int32)), .val (.long x2), .second] [(.int (0 : Int32)), (.ref a1), (.long x2)])) rfl rfl (hb hby d14_43) _ ?_
          refine XS.lcmp X42.here hx rfl (hb hby d14_44) rfl ?_
          refine XS.ifNo X42.here hx rfl (hb hby d14_45) rfl ((if0 _ _).trans (tlt (own_lclt hc45_2)).2.1) ?_
          refine XS.aloadN X42.here hx rfl (hb hby d14_48) rfl rfl ?_
          refine XS.iloadN X42.here hx rfl (hb hby d14_49) rfl ?_
          refine XS.iconst X42.here hx rfl (hb hby d14_50) ?_
          refine XS.iadd X42.here hx rfl (hb hby d14_51) rfl ?_
          refine XS.aloadN X42.here hx rfl (hb hby d14_52) rfl rfl ?_
          refine XS.iloadN X42.here hx rfl (hb hby d14_53) rfl ?_
          refine X42.laload hx (j := (0 : Int32)) (v := (.long x0)) (by rw [e42]; exact Ar45.1) (State.isArrayOf_alike hZ.alike Ar45.2.1) Ar45.2.2 hin46 hat46 (g := (mkF m 54 #[.val (.ref a1), .val (.int (0 : Int32)), .val (.int (3 : Int32)), .val (.int (0 : Int32)), .val (.int (2 : Int32)), .val (.long x2), .second] [(.int (0 : Int32)), (.ref a1), (.int (1 : Int32)), (.ref a1)])) rfl rfl (hb hby d14_54) _ ?_
          refine st48 _ ?_
          refine XS.goto X48.here hx rfl (pc0 := 56) (pc' := 31) rfl (hb hby d14_56) (by decide) (by decide) ?_
          refine XS.iinc X48.here hx rfl (hb hby d14_31) rfl (l' := #[.val (.ref a1), .val (.int (0 : Int32)), .val (.int (3 : Int32)), .val (.int (-1 : Int32)), .val (.int (2 : Int32)), .val (.long x2), .second]) rfl ?_
          refine XS.iloadN X48.here hx rfl (hb hby d14_34) rfl ?_
          refine XS.iloadN X48.here hx rfl (hb hby d14_35) rfl ?_
          show Steps p.tables e below (T48.setTop (mkF m 36 #[.val (.ref a1), .val (.int (0 : Int32)), .val (.int (3 : Int32)), .val (.int (-1 : Int32)), .val (.int (2 : Int32)), .val (.long x2), .second] [(.int (0 : Int32)), (.int (-1 : Int32))])) _
          refine XS.icmpYes X48.here hx rfl (pc0 := 36) (pc' := 59) rfl (hb hby d14_36) rfl (tlt (by decide)).1 (by decide) (by decide) ?_
          refine XS.aloadN X48.here hx rfl (hb hby d14_59) rfl rfl ?_
          refine XS.iloadN X48.here hx rfl (hb hby d14_60) rfl ?_
          refine XS.iconst X48.here hx rfl (hb hby d14_61) ?_
          refine XS.iadd X48.here hx rfl (hb hby d14_62) rfl ?_
          refine XS.lload X48.here hx rfl (hb hby d14_63) rfl ?_
          refine st50 _ ?_
          refine XS.goto X50.here hx rfl (pc0 := 66) (pc' := 3) rfl (hb hby d14_66) (by decide) (by decide) ?_
          refine XS.iinc X50.here hx rfl (hb hby d14_3) rfl (l' := #[.val (.ref a1), .val (.int (0 : Int32)), .val (.int (3 : Int32)), .val (.int (-1 : Int32)), .val (.int (3 : Int32)), .val (.long x2), .second]) rfl ?_
          refine XS.iload X50.here hx rfl (hb hby d14_6) rfl ?_
          refine XS.iloadN X50.here hx rfl (hb hby d14_8) rfl ?_
          refine XS.icmpYes X50.here hx rfl (pc0 := 9) (pc' := 69) rfl (hb hby d14_9) rfl (flt (by decide)).2.1 (by decide) (by decide) ?_
          show Steps p.tables e below (T50.setTop (mkF m 69 #[.val (.ref a1), .val (.int (0 : Int32)), .val (.int (3 : Int32)), .val (.int (-1 : Int32)), .val (.int (3 : Int32)), .val (.long x2), .second] [])) _
          exact X50.returnOut hx Bd.returns (hb hby d14_69) hr
        · show Qrmi3 Z a1 k x0 x1 x2 h0 n0 _ T50.heap _
          rw [e50]
          exact ⟨rfl, N50, K50, x2, x0, x1, V50, ⟨(own_ltN hc45_2), hc28⟩, (Or.inr (Or.inr (Or.inr (Or.inr (Or.inl ⟨rfl, rfl, rfl⟩)))))⟩
      · obtain ⟨cl51, Ar51, qk51, Sz51, Nn51, Hh51, Gg51⟩ := id (V42)
        have hin52 : ¬ ((1 : Int32) < 0 ∨ cl51.slots.size ≤ ((1 : Int32)).toNatClampNeg) := inb_of Sz51 ⟨by decide, by decide⟩
        obtain ⟨T52, h52, X52, e52, W52, st52⟩ := stJ X42 hx hZ e42 Ar51 (j := (1 : Int32)) hin52  (g := (mkF m 65 #[.val (.ref a1), .val (.int (0 : Int32)), .val (.int (3 : Int32)), .val (.int (0 : Int32)), .val (.int (2 : Int32)), .val (.long x2), .second] [(.long x2), (.int (1 : Int32)), (.ref a1)])) rfl rfl (hb hby d14_65)
        have N52 := Fr.snoc X52 N42 ga
        have Z52 : n0 ≤ h52.size := by rw [W52.size]; exact Z42
        have K52 : Keep h0 h52 [a1] := K42.wr W52 (Or.inl (own_w 0 rfl))
        have V52 : Arv Z h52 a1 k .long (3 : Int32) [(.long x0), (.long x2), (.long x1)] (.long (0 : Int64)) := Arv.set Ar51 qk51 Sz51 Nn51 Hh51 Gg51 rfl W52 1 rfl (Nat.le_of_ble_eq_true rfl)
        obtain ⟨fs, hr, hrun, hended, hW, hsame⟩ := X52.leave (v := none) (fun _ => rfl) (BodyLoose.notSynchronized Bd)
        refine ⟨_, _, pre0 _ ?_, hrun, hended, _, _, rfl, ?_, ⟨_, rfl⟩, hW, hsame.mono (by decide) (by decide)⟩
        · show Steps p.tables e below (s₁.setTop (mkF m 0 #[.val (.ref a1), .val (.int (0 : Int32)), .val (.int (3 : Int32)), .unset, .unset, .unset, .unset] [])) _
          refine XS.iloadN X0.here hx rfl (hb hby d14_0) rfl ?_
          refine XS.istore X0.here hx rfl (hb hby d14_1) rfl (l' := #[.val (.ref a1), .val (.int (0 : Int32)), .val (.int (3 : Int32)), .unset, .val (.int (0 : Int32)), .unset, .unset]) rfl ?_
          refine XS.iinc X0.here hx rfl (hb hby d14_3) rfl (l' := #[.val (.ref a1), .val (.int (0 : Int32)), .val (.int (3 : Int32)), .unset, .val (.int (1 : Int32)), .unset, .unset]) rfl ?_
          refine XS.iload X0.here hx rfl (hb hby d14_6) rfl ?_
          refine XS.iloadN X0.here hx rfl (hb hby d14_8) rfl ?_
          refine XS.icmpNo X0.here hx rfl (hb hby d14_9) rfl (tlt (by decide)).2.1 ?_
          refine XS.aloadN X0.here hx rfl (hb hby d14_12) rfl rfl ?_
          refine XS.iload X0.here hx rfl (hb hby d14_13) rfl ?_
          refine XS.dup X0.here hx rfl (hb hby d14_15) rfl rfl ?_
          refine XS.istoreN X0.here hx rfl (hb hby d14_16) rfl (l' := #[.val (.ref a1), .val (.int (0 : Int32)), .val (.int (3 : Int32)), .val (.int (1 : Int32)), .val (.int (1 : Int32)), .unset, .unset]) rfl ?_
          refine X0.laload hx (j := (1 : Int32)) (v := (.long x1)) (by rw [e0]; exact Ar1.1) (State.isArrayOf_alike hZ.alike Ar1.2.1) Ar1.2.2 hin2 hat2 (g := (mkF m 17 #[.val (.ref a1), .val (.int (0 : Int32)), .val (.int (3 : Int32)), .val (.int (1 : Int32)), .val (.int (1 : Int32)), .unset, .unset] [(.int (1 : Int32)), (.ref a1)])) rfl rfl (hb hby d14_17) _ ?_
          refine XS.lstore X0.here hx rfl (hb hby d14_18) rfl (l' := #[.val (.ref a1), .val (.int (0 : Int32)), .val (.int (3 : Int32)), .val (.int (1 : Int32)), .val (.int (1 : Int32)), .val (.long x1), .second]) rfl ?_
          refine XS.lload X0.here hx rfl (hb hby d14_20) rfl ?_
          refine XS.aloadN X0.here hx rfl (hb hby d14_22) rfl rfl ?_
          refine XS.iloadN X0.here hx rfl (hb hby d14_23) rfl ?_
          refine XS.iconst X0.here hx rfl (hb hby d14_24) ?_
          refine XS.isub X0.here hx rfl (hb hby d14_25) rfl ?_
          refine X0.laload hx (j := (0 : Int32)) (v := (.long x0)) (by rw [e0]; exact Ar3.1) (State.isArrayOf_alike hZ.alike Ar3.2.1) Ar3.2.2 hin4 hat4 (g := (mkF m 26 #[.val (.ref a1), .val (.int (0 : Int32)), .val (.int (3 : Int32)), .val (.int (1 : Int32)), .val (.int (1 : Int32)), .val (.long x1), .second] [(.int (0 : Int32)), (.ref a1), (.long x1)])) rfl rfl (hb hby d14_26) _ ?_
          refine XS.lcmp X0.here hx rfl (hb hby d14_27) rfl ?_
          refine XS.ifYes X0.here hx rfl (pc0 := 28) (pc' := 66) rfl (hb hby d14_28) rfl ((if0 _ _).trans (flt (own_lcnlt hc28)).2.1) (by decide) (by decide) ?_
          refine XS.goto X0.here hx rfl (pc0 := 66) (pc' := 3) rfl (hb hby d14_66) (by decide) (by decide) ?_
          refine XS.iinc X0.here hx rfl (hb hby d14_3) rfl (l' := #[.val (.ref a1), .val (.int (0 : Int32)), .val (.int (3 : Int32)), .val (.int (1 : Int32)), .val (.int (2 : Int32)), .val (.long x1), .second]) rfl ?_
          refine XS.iload X0.here hx rfl (hb hby d14_6) rfl ?_
          refine XS.iloadN X0.here hx rfl (hb hby d14_8) rfl ?_
          refine XS.icmpNo X0.here hx rfl (hb hby d14_9) rfl (tlt (by decide)).2.1 ?_
          refine XS.aloadN X0.here hx rfl (hb hby d14_12) rfl rfl ?_
          refine XS.iload X0.here hx rfl (hb hby d14_13) rfl ?_
          refine XS.dup X0.here hx rfl (hb hby d14_15) rfl rfl ?_
          refine XS.istoreN X0.here hx rfl (hb hby d14_16) rfl (l' := #[.val (.ref a1), .val (.int (0 : Int32)), .val (.int (3 : Int32)), .val (.int (2 : Int32)), .val (.int (2 : Int32)), .val (.long x1), .second]) rfl ?_
          refine X0.laload hx (j := (2 : Int32)) (v := (.long x2)) (by rw [e0]; exact Ar33.1) (State.isArrayOf_alike hZ.alike Ar33.2.1) Ar33.2.2 hin34 hat34 (g := (mkF m 17 #[.val (.ref a1), .val (.int (0 : Int32)), .val (.int (3 : Int32)), .val (.int (2 : Int32)), .val (.int (2 : Int32)), .val (.long x1), .second] [(.int (2 : Int32)), (.ref a1)])) rfl rfl (hb hby d14_17) _ ?_
          refine XS.lstore X0.here hx rfl (hb hby d14_18) rfl (l' := #[.val (.ref a1), .val (.int (0 : Int32)), .val (.int (3 : Int32)), .val (.int (2 : Int32)), .val (.int (2 : Int32)), .val (.long x2), .second]) rfl ?_
          refine XS.lload X0.here hx rfl (hb hby d14_20) rfl ?_
          refine XS.aloadN X0.here hx rfl (hb hby d14_22) rfl rfl ?_
          refine XS.iloadN X0.here hx rfl (hb hby d14_23) rfl ?_
          refine XS.iconst X0.here hx rfl (hb hby d14_24) ?_
          refine XS.isub X0.here hx rfl (hb hby d14_25) rfl ?_
          refine X0.laload hx (j := (1 : Int32)) (v := (.long x1)) (by rw [e0]; exact Ar35.1) (State.isArrayOf_alike hZ.alike Ar35.2.1) Ar35.2.2 hin36 hat36 (g := (mkF m 26 #[.val (.ref a1), .val (.int (0 : Int32)), .val (.int (3 : Int32)), .val (.int (2 : Int32)), .val (.int (2 : Int32)), .val (.long x2), .second] [(.int (1 : Int32)), (.ref a1), (.long x2)])) rfl rfl (hb hby d14_26) _ ?_
          refine XS.lcmp X0.here hx rfl (hb hby d14_27) rfl ?_
          refine XS.ifNo X0.here hx rfl (hb hby d14_28) rfl ((if0 _ _).trans (tlt (own_lclt hc28_2)).2.1) ?_
          refine XS.iinc X0.here hx rfl (hb hby d14_31) rfl (l' := #[.val (.ref a1), .val (.int (0 : Int32)), .val (.int (3 : Int32)), .val (.int (1 : Int32)), .val (.int (2 : Int32)), .val (.long x2), .second]) rfl ?_
          show Steps p.tables e below (s₁.setTop (mkF m 34 #[.val (.ref a1), .val (.int (0 : Int32)), .val (.int (3 : Int32)), .val (.int (1 : Int32)), .val (.int (2 : Int32)), .val (.long x2), .second] [])) _
          refine XS.iloadN X0.here hx rfl (hb hby d14_34) rfl ?_
          refine XS.iloadN X0.here hx rfl (hb hby d14_35) rfl ?_
          refine XS.icmpNo X0.here hx rfl (hb hby d14_36) rfl (flt (by decide)).1 ?_
          refine XS.lload X0.here hx rfl (hb hby d14_39) rfl ?_
          refine XS.aloadN X0.here hx rfl (hb hby d14_41) rfl rfl ?_
          refine XS.iloadN X0.here hx rfl (hb hby d14_42) rfl ?_
          refine X0.laload hx (j := (1 : Int32)) (v := (.long x1)) (by rw [e0]; exact Ar37.1) (State.isArrayOf_alike hZ.alike Ar37.2.1) Ar37.2.2 hin38 hat38 (g := (mkF m 43 #[.val (.ref a1), .val (.int (0 : Int32)), .val (.int (3 : Int32)), .val (.int (1 : Int32)), .val (.int (2 : Int32)), .val (.long x2), .second] [(.int (1 : Int32)), (.ref a1), (.long x2)])) rfl rfl (hb hby d14_43) _ ?_
          refine XS.lcmp X0.here hx rfl (hb hby d14_44) rfl ?_
          refine XS.ifNo X0.here hx rfl (hb hby d14_45) rfl ((if0 _ _).trans (tlt (own_lclt hc28_2)).2.1) ?_
          refine XS.aloadN X0.here hx rfl (hb hby d14_48) rfl rfl ?_
          refine XS.iloadN X0.here hx rfl (hb hby d14_49) rfl ?_
          refine XS.iconst X0.here hx rfl (hb hby d14_50) ?_
          refine XS.iadd X0.here hx rfl (hb hby d14_51) rfl ?_
          refine XS.aloadN X0.here hx rfl (hb hby d14_52) rfl rfl ?_
          refine XS.iloadN X0.here hx rfl (hb hby d14_53) rfl ?_
          refine X0.laload hx (j := (1 : Int32)) (v := (.long x1)) (by rw [e0]; exact Ar39.1) (State.isArrayOf_alike hZ.alike Ar39.2.1) Ar39.2.2 hin40 hat40 (g := (mkF m 54 #[.val (.ref a1), .val (.int (0 : Int32)), .val (.int (3 : Int32)), .val (.int (1 : Int32)), .val (.int (2 : Int32)), .val (.long x2), .second] [(.int (1 : Int32)), (.ref a1), (.int (2 : Int32)), (.ref a1)])) rfl rfl (hb hby d14_54) _ ?_
          refine st42 _ ?_
          refine XS.goto X42.here hx rfl (pc0 := 56) (pc' := 31) rfl (hb hby d14_56) (by decide) (by decide) ?_
          refine XS.iinc X42.here hx rfl (hb hby d14_31) rfl (l' := #[.val (.ref a1), .val (.int (0 : Int32)), .val (.int (3 : Int32)), .val (.int (0 : Int32)), .val (.int (2 : Int32)), .val (.long x2), .second]) rfl ?_
          refine XS.iloadN X42.here hx rfl (hb hby d14_34) rfl ?_
          refine XS.iloadN X42.here hx rfl (hb hby d14_35) rfl ?_
          refine XS.icmpNo X42.here hx rfl (hb hby d14_36) rfl (flt (by decide)).1 ?_
          refine XS.lload X42.here hx rfl (hb hby d14_39) rfl ?_
          refine XS.aloadN X42.here hx rfl (hb hby d14_41) rfl rfl ?_
          refine XS.iloadN X42.here hx rfl (hb hby d14_42) rfl ?_
          refine X42.laload hx (j := (0 : Int32)) (v := (.long x0)) (by rw [e42]; exact Ar43.1) (State.isArrayOf_alike hZ.alike Ar43.2.1) Ar43.2.2 hin44 hat44 (g := (mkF m 43 #[.val (.ref a1), .val (.int (0 : Int32)), .val (.int (3 : Int32)), .val (.int (0 : Int32)), .val (.int (2 : Int32)), .val (.long x2), .second] [(.int (0 : Int32)), (.ref a1), (.long x2)])) rfl rfl (hb hby d14_43) _ ?_
          refine XS.lcmp X42.here hx rfl (hb hby d14_44) rfl ?_
          refine XS.ifYes X42.here hx rfl (pc0 := 45) (pc' := 59) rfl (hb hby d14_45) rfl ((if0 _ _).trans (flt (own_lcnlt hc45_2)).2.1) (by decide) (by decide) ?_
          refine XS.aloadN X42.here hx rfl (hb hby d14_59) rfl rfl ?_
          refine XS.iloadN X42.here hx rfl (hb hby d14_60) rfl ?_
          refine XS.iconst X42.here hx rfl (hb hby d14_61) ?_
          refine XS.iadd X42.here hx rfl (hb hby d14_62) rfl ?_
          refine XS.lload X42.here hx rfl (hb hby d14_63) rfl ?_
          refine st52 _ ?_
          refine XS.goto X52.here hx rfl (pc0 := 66) (pc' := 3) rfl (hb hby d14_66) (by decide) (by decide) ?_
          refine XS.iinc X52.here hx rfl (hb hby d14_3) rfl (l' := #[.val (.ref a1), .val (.int (0 : Int32)), .val (.int (3 : Int32)), .val (.int (0 : Int32)), .val (.int (3 : Int32)), .val (.long x2), .second]) rfl ?_
          refine XS.iload X52.here hx rfl (hb hby d14_6) rfl ?_
          refine XS.iloadN X52.here hx rfl (hb hby d14_8) rfl ?_
          refine XS.icmpYes X52.here hx rfl (pc0 := 9) (pc' := 69) rfl (hb hby d14_9) rfl (flt (by decide)).2.1 (by decide) (by decide) ?_
          show Steps p.tables e below (T52.setTop (mkF m 69 #[.val (.ref a1), .val (.int (0 : Int32)), .val (.int (3 : Int32)), .val (.int (0 : Int32)), .val (.int (3 : Int32)), .val (.long x2), .second] [])) _
          exact X52.returnOut hx Bd.returns (hb hby d14_69) hr
        · show Qrmi3 Z a1 k x0 x1 x2 h0 n0 _ T52.heap _
          rw [e52]
          exact ⟨rfl, N52, K52, x0, x2, x1, V52, ⟨hc45_2, (own_ltN hc28_2)⟩, (Or.inr (Or.inl ⟨rfl, rfl, rfl⟩))⟩
    · obtain ⟨fs, hr, hrun, hended, hW, hsame⟩ := X0.leave (v := none) (fun _ => rfl) (BodyLoose.notSynchronized Bd)
      refine ⟨_, _, pre0 _ ?_, hrun, hended, _, _, rfl, ?_, ⟨_, rfl⟩, hW, hsame.mono (by decide) (by decide)⟩
      · show Steps p.tables e below (s₁.setTop (mkF m 0 #[.val (.ref a1), .val (.int (0 : Int32)), .val (.int (3 : Int32)), .unset, .unset, .unset, .unset] [])) _
        refine XS.iloadN X0.here hx rfl (hb hby d14_0) rfl ?_
        refine XS.istore X0.here hx rfl (hb hby d14_1) rfl (l' := #[.val (.ref a1), .val (.int (0 : Int32)), .val (.int (3 : Int32)), .unset, .val (.int (0 : Int32)), .unset, .unset]) rfl ?_
        refine XS.iinc X0.here hx rfl (hb hby d14_3) rfl (l' := #[.val (.ref a1), .val (.int (0 : Int32)), .val (.int (3 : Int32)), .unset, .val (.int (1 : Int32)), .unset, .unset]) rfl ?_
        refine XS.iload X0.here hx rfl (hb hby d14_6) rfl ?_
        refine XS.iloadN X0.here hx rfl (hb hby d14_8) rfl ?_
        refine XS.icmpNo X0.here hx rfl (hb hby d14_9) rfl (tlt (by decide)).2.1 ?_
        refine XS.aloadN X0.here hx rfl (hb hby d14_12) rfl rfl ?_
        refine XS.iload X0.here hx rfl (hb hby d14_13) rfl ?_
        refine XS.dup X0.here hx rfl (hb hby d14_15) rfl rfl ?_
        refine XS.istoreN X0.here hx rfl (hb hby d14_16) rfl (l' := #[.val (.ref a1), .val (.int (0 : Int32)), .val (.int (3 : Int32)), .val (.int (1 : Int32)), .val (.int (1 : Int32)), .unset, .unset]) rfl ?_
        refine X0.laload hx (j := (1 : Int32)) (v := (.long x1)) (by rw [e0]; exact Ar1.1) (State.isArrayOf_alike hZ.alike Ar1.2.1) Ar1.2.2 hin2 hat2 (g := (mkF m 17 #[.val (.ref a1), .val (.int (0 : Int32)), .val (.int (3 : Int32)), .val (.int (1 : Int32)), .val (.int (1 : Int32)), .unset, .unset] [(.int (1 : Int32)), (.ref a1)])) rfl rfl (hb hby d14_17) _ ?_
        refine XS.lstore X0.here hx rfl (hb hby d14_18) rfl (l' := #[.val (.ref a1), .val (.int (0 : Int32)), .val (.int (3 : Int32)), .val (.int (1 : Int32)), .val (.int (1 : Int32)), .val (.long x1), .second]) rfl ?_
        refine XS.lload X0.here hx rfl (hb hby d14_20) rfl ?_
        refine XS.aloadN X0.here hx rfl (hb hby d14_22) rfl rfl ?_
        refine XS.iloadN X0.here hx rfl (hb hby d14_23) rfl ?_
        refine XS.iconst X0.here hx rfl (hb hby d14_24) ?_
        refine XS.isub X0.here hx rfl (hb hby d14_25) rfl ?_
        refine X0.laload hx (j := (0 : Int32)) (v := (.long x0)) (by rw [e0]; exact Ar3.1) (State.isArrayOf_alike hZ.alike Ar3.2.1) Ar3.2.2 hin4 hat4 (g := (mkF m 26 #[.val (.ref a1), .val (.int (0 : Int32)), .val (.int (3 : Int32)), .val (.int (1 : Int32)), .val (.int (1 : Int32)), .val (.long x1), .second] [(.int (0 : Int32)), (.ref a1), (.long x1)])) rfl rfl (hb hby d14_26) _ ?_
        refine XS.lcmp X0.here hx rfl (hb hby d14_27) rfl ?_
        refine XS.ifYes X0.here hx rfl (pc0 := 28) (pc' := 66) rfl (hb hby d14_28) rfl ((if0 _ _).trans (flt (own_lcnlt hc28)).2.1) (by decide) (by decide) ?_
        refine XS.goto X0.here hx rfl (pc0 := 66) (pc' := 3) rfl (hb hby d14_66) (by decide) (by decide) ?_
        refine XS.iinc X0.here hx rfl (hb hby d14_3) rfl (l' := #[.val (.ref a1), .val (.int (0 : Int32)), .val (.int (3 : Int32)), .val (.int (1 : Int32)), .val (.int (2 : Int32)), .val (.long x1), .second]) rfl ?_
        refine XS.iload X0.here hx rfl (hb hby d14_6) rfl ?_
        refine XS.iloadN X0.here hx rfl (hb hby d14_8) rfl ?_
        refine XS.icmpNo X0.here hx rfl (hb hby d14_9) rfl (tlt (by decide)).2.1 ?_
        refine XS.aloadN X0.here hx rfl (hb hby d14_12) rfl rfl ?_
        refine XS.iload X0.here hx rfl (hb hby d14_13) rfl ?_
        refine XS.dup X0.here hx rfl (hb hby d14_15) rfl rfl ?_
        refine XS.istoreN X0.here hx rfl (hb hby d14_16) rfl (l' := #[.val (.ref a1), .val (.int (0 : Int32)), .val (.int (3 : Int32)), .val (.int (2 : Int32)), .val (.int (2 : Int32)), .val (.long x1), .second]) rfl ?_
        refine X0.laload hx (j := (2 : Int32)) (v := (.long x2)) (by rw [e0]; exact Ar33.1) (State.isArrayOf_alike hZ.alike Ar33.2.1) Ar33.2.2 hin34 hat34 (g := (mkF m 17 #[.val (.ref a1), .val (.int (0 : Int32)), .val (.int (3 : Int32)), .val (.int (2 : Int32)), .val (.int (2 : Int32)), .val (.long x1), .second] [(.int (2 : Int32)), (.ref a1)])) rfl rfl (hb hby d14_17) _ ?_
        refine XS.lstore X0.here hx rfl (hb hby d14_18) rfl (l' := #[.val (.ref a1), .val (.int (0 : Int32)), .val (.int (3 : Int32)), .val (.int (2 : Int32)), .val (.int (2 : Int32)), .val (.long x2), .second]) rfl ?_
        refine XS.lload X0.here hx rfl (hb hby d14_20) rfl ?_
        refine XS.aloadN X0.here hx rfl (hb hby d14_22) rfl rfl ?_
        refine XS.iloadN X0.here hx rfl (hb hby d14_23) rfl ?_
        refine XS.iconst X0.here hx rfl (hb hby d14_24) ?_
        refine XS.isub X0.here hx rfl (hb hby d14_25) rfl ?_
        refine X0.laload hx (j := (1 : Int32)) (v := (.long x1)) (by rw [e0]; exact Ar35.1) (State.isArrayOf_alike hZ.alike Ar35.2.1) Ar35.2.2 hin36 hat36 (g := (mkF m 26 #[.val (.ref a1), .val (.int (0 : Int32)), .val (.int (3 : Int32)), .val (.int (2 : Int32)), .val (.int (2 : Int32)), .val (.long x2), .second] [(.int (1 : Int32)), (.ref a1), (.long x2)])) rfl rfl (hb hby d14_26) _ ?_
        refine XS.lcmp X0.here hx rfl (hb hby d14_27) rfl ?_
        refine XS.ifYes X0.here hx rfl (pc0 := 28) (pc' := 66) rfl (hb hby d14_28) rfl ((if0 _ _).trans (flt (own_lcnlt hc28_2)).2.1) (by decide) (by decide) ?_
        refine XS.goto X0.here hx rfl (pc0 := 66) (pc' := 3) rfl (hb hby d14_66) (by decide) (by decide) ?_
        show Steps p.tables e below (s₁.setTop (mkF m 3 #[.val (.ref a1), .val (.int (0 : Int32)), .val (.int (3 : Int32)), .val (.int (2 : Int32)), .val (.int (2 : Int32)), .val (.long x2), .second] [])) _
        refine XS.iinc X0.here hx rfl (hb hby d14_3) rfl (l' := #[.val (.ref a1), .val (.int (0 : Int32)), .val (.int (3 : Int32)), .val (.int (2 : Int32)), .val (.int (3 : Int32)), .val (.long x2), .second]) rfl ?_
        refine XS.iload X0.here hx rfl (hb hby d14_6) rfl ?_
        refine XS.iloadN X0.here hx rfl (hb hby d14_8) rfl ?_
        refine XS.icmpYes X0.here hx rfl (pc0 := 9) (pc' := 69) rfl (hb hby d14_9) rfl (flt (by decide)).2.1 (by decide) (by decide) ?_
        show Steps p.tables e below (s₁.setTop (mkF m 69 #[.val (.ref a1), .val (.int (0 : Int32)), .val (.int (3 : Int32)), .val (.int (2 : Int32)), .val (.int (3 : Int32)), .val (.long x2), .second] [])) _
        exact X0.returnOut hx Bd.returns (hb hby d14_69) hr
      · show Qrmi3 Z a1 k x0 x1 x2 h0 n0 _ s₁.heap _
        rw [e0]
        exact ⟨rfl, N0, (Keep.refl h0 [a1]), x0, x1, x2, A, ⟨hc28, hc28_2⟩, (Or.inl ⟨rfl, rfl, rfl⟩)⟩
theorem ef_rms3 (m : MethodId) (a2 : Addr) : entryFrame m #[.null, (.ref a2), (.int (0 : Int32)), (.int (0 : Int32)), (.int (3 : Int32))] 25 = mkF m 0 #[.val .null, .val (.ref a2), .val (.int (0 : Int32)), .val (.int (0 : Int32)), .val (.int (3 : Int32)), .unset, .unset, .unset, .unset, .unset, .unset, .unset, .unset, .unset, .unset, .unset, .unset, .unset, .unset, .unset, .unset, .unset, .unset, .unset, .unset] [] := by first | (simp [entryFrame, mkF, argsToLocals, Value.category]; done) | rfl
def Qrms3 (Z : State) (a2 : Addr) (k : ClassId) (x0 : Int64) (x1 : Int64) (x2 : Int64) (h0 : Heap) (n0 : Nat) (v : Option Value) (h : Heap) (L : List Loc) : Prop := v = none ∧ Fr n0 L ∧ Keep h0 h [a2] ∧ ∃ y0 y1 y2 : Int64, Arv Z h a2 k .long (3 : Int32) [.long y0, .long y1, .long y2] (.long (0 : Int64)) ∧ (¬ y1 < y0 ∧ ¬ y2 < y1) ∧ ((y0 = x0 ∧ y1 = x1 ∧ y2 = x2) ∨ (y0 = x0 ∧ y1 = x2 ∧ y2 = x1) ∨ (y0 = x1 ∧ y1 = x0 ∧ y2 = x2) ∨ (y0 = x1 ∧ y1 = x2 ∧ y2 = x0) ∨ (y0 = x2 ∧ y1 = x0 ∧ y2 = x1) ∨ (y0 = x2 ∧ y1 = x1 ∧ y2 = x0))
set_option maxRecDepth 65536 in
set_option maxHeartbeats 40000000 in
theorem rms3 (l : Launch) (Z : State) (a0 : Array Value) (hw : ∀ d ∈ tables_1, d.before a0 Z = true) (ws : List Jvm.Cond) (a2 : Addr) (k : ClassId) (x0 : Int64) (x1 : Int64) (x2 : Int64) (h0 : Heap) (n0 : Nat) (Z0 : n0 ≤ h0.size) (A : Arv Z h0 a2 k .long (3 : Int32) [.long x0, .long x1, .long x2] (.long (0 : Int64))) (ga : n0 ≤ a2) :
    MetFree l (⟨"java/util/DualPivotQuicksort", "sort", "(Ljava/util/DualPivotQuicksort$Sorter;[JIII)V"⟩ : MethodName) (head1 (Jvm.Cond.code (⟨"java/util/DualPivotQuicksort", "sort", "(Ljava/util/DualPivotQuicksort$Sorter;[JIII)V"⟩ : MethodName) jdk_2529_method_13_code 25 none :: ws) ({ frames := 1, cells := 0, slots := 0, locals := 18 } : Room)) (fun a U => a = #[.null, (.ref a2), (.int (0 : Int32)), (.int (0 : Int32)), (.int (3 : Int32))] ∧ Z.Warmed39 U.vm ∧ U.heap = h0) (fun _ _ _ _ _ => True) (fun _ U o U' => ∃ v L, o = .returned v ∧ Qrms3 Z a2 k x0 x1 x2 h0 n0 v U'.heap L ∧ FrameEnd U o U' L ({ frames := 1, cells := 0, slots := 0, locals := 18 } : Room).cells ({ frames := 1, cells := 0, slots := 0, locals := 18 } : Room).slots) := by
  refine MetFree.of_bodySF (plainFor_of_name pn_13) hisR ?_
  intro p e s m args below meth c s₁ Bd hml0 hP hK
  obtain ⟨rfl, hZ, hh⟩ := hP
  have hx := Bd.exec
  have hby := Bd.bytes
  have hml : c.maxLocals = 25 := hml0
  have hown : s.vm.findClass "java/util/DualPivotQuicksort" = some m.cls := findClass_of_methodNamed Bd.named
  have hnm := (name_of_methodNamed Bd.named Bd.method).1
  have X0 : Stand p l e ({ frames := 1, cells := 0, slots := 0, locals := 18 } : Room) s m #[.null, (.ref a2), (.int (0 : Int32)), (.int (0 : Int32)), (.int (3 : Int32))] below meth c s₁ [] 0 0 := Stand.of_body Bd
  have e0 : s₁.heap = h0 := by rw [← hh, Bd.state]; rfl
  have N0 := Fr.nil n0
  have pre0 : ∀ t, Steps p.tables e below (s₁.setTop (mkF m 0 #[.val .null, .val (.ref a2), .val (.int (0 : Int32)), .val (.int (0 : Int32)), .val (.int (3 : Int32)), .unset, .unset, .unset, .unset, .unset, .unset, .unset, .unset, .unset, .unset, .unset, .unset, .unset, .unset, .unset, .unset, .unset, .unset, .unset, .unset] [])) t → Steps p.tables e below (s₁.setTop (entryFrame m #[.null, (.ref a2), (.int (0 : Int32)), (.int (0 : Int32)), (.int (3 : Int32))] 25)) t := fun t k => castTop (ef_rms3 m a2) k
  obtain ⟨_, _, ⟨T1, Lq1, kq1, nq1⟩, -, X1, ⟨Lc1, hQ1, lq1, yq1, zq1⟩, st1⟩ := Jvm.LawKit.callS X0 hx (y := (⟨"java/util/DualPivotQuicksort", "insertionSort", "([JII)V"⟩ : MethodName)) hown (mvT hZ (hw _ (own_w 65 rfl))) (mvT hZ (hw _ (own_w 66 rfl))) (mvT hZ (hw _ (own_w 60 rfl))) (mvT hZ (hw _ (own_w 67 rfl))) (by decide) (backOf (W := 0) (rmi3 l Z a0 hw [] a2 k x0 x1 x2 h0 n0 Z0 A ga) hZ (hw _ (own_w 67 rfl)) (hw _ (own_w 60 rfl)) (by decide) (by decide)) (g := (mkF m 57 #[.val .null, .val (.ref a2), .val (.int (0 : Int32)), .val (.int (0 : Int32)), .val (.int (3 : Int32)), .val (.int (2 : Int32)), .val (.int (3 : Int32)), .unset, .unset, .unset, .unset, .unset, .unset, .unset, .unset, .unset, .unset, .unset, .unset, .unset, .unset, .unset, .unset, .unset, .unset] [(.int (3 : Int32)), (.int (0 : Int32)), (.ref a2)])) rfl (by rw [hml]; rfl) (argsL := [(.ref a2), (.int (0 : Int32)), (.int (3 : Int32))]) (rest := []) (lenOf pd_6 rfl) rfl (by show 2 * 0 + _ ≤ _; exact Nat.le_of_eq rfl) (hb hby d13_57) (fun _ _ => ⟨rfl, e0, (by decide : 0 + 0 ≤ _), (by decide : 0 + 0 ≤ _)⟩)
  dsimp only [Pt.U, Pt.locs, Pt.cells, Pt.slots] at X1 lq1 yq1 zq1 st1 hQ1
  subst lq1 yq1 zq1
  obtain ⟨rfl, N1q, KC1, u1⟩ := hQ1
  have N1 := Fr.app N0 N1q
  have Z1 : n0 ≤ T1.heap.size := Nat.le_trans Z0 KC1.1
  have K1 : Keep h0 T1.heap [a2] := (Keep.refl h0 [a2]).trans KC1 (allS (Or.inl (own_w 0 rfl)) all0)
  obtain ⟨y1_0, y1_1, y1_2, AV1, so1, pm1⟩ := id u1
  obtain ⟨fs, hr, hrun, hended, hW, hsame⟩ := X1.leave (v := none) (fun _ => rfl) (BodyLoose.notSynchronized Bd)
  refine ⟨_, _, pre0 _ ?_, hrun, hended, _, _, rfl, ?_, ⟨_, rfl⟩, hW, hsame.mono (by decide) (by decide)⟩
  · show Steps p.tables e below (s₁.setTop (mkF m 0 #[.val .null, .val (.ref a2), .val (.int (0 : Int32)), .val (.int (0 : Int32)), .val (.int (3 : Int32)), .unset, .unset, .unset, .unset, .unset, .unset, .unset, .unset, .unset, .unset, .unset, .unset, .unset, .unset, .unset, .unset, .unset, .unset, .unset, .unset] [])) _
    refine XS.iload X0.here hx rfl (hb hby d13_0) rfl ?_
    refine XS.iconst X0.here hx rfl (hb hby d13_2) ?_
    refine XS.isub X0.here hx rfl (hb hby d13_3) rfl ?_
    refine XS.istore X0.here hx rfl (hb hby d13_4) rfl (l' := #[.val .null, .val (.ref a2), .val (.int (0 : Int32)), .val (.int (0 : Int32)), .val (.int (3 : Int32)), .val (.int (2 : Int32)), .unset, .unset, .unset, .unset, .unset, .unset, .unset, .unset, .unset, .unset, .unset, .unset, .unset, .unset, .unset, .unset, .unset, .unset, .unset]) rfl ?_
    refine XS.iload X0.here hx rfl (hb hby d13_6) rfl ?_
    refine XS.iloadN X0.here hx rfl (hb hby d13_8) rfl ?_
    refine XS.isub X0.here hx rfl (hb hby d13_9) rfl ?_
    refine XS.istore X0.here hx rfl (hb hby d13_10) rfl (l' := #[.val .null, .val (.ref a2), .val (.int (0 : Int32)), .val (.int (0 : Int32)), .val (.int (3 : Int32)), .val (.int (2 : Int32)), .val (.int (3 : Int32)), .unset, .unset, .unset, .unset, .unset, .unset, .unset, .unset, .unset, .unset, .unset, .unset, .unset, .unset, .unset, .unset, .unset, .unset]) rfl ?_
    refine XS.iload X0.here hx rfl (hb hby d13_12) rfl ?_
    refine XS.bipush X0.here hx rfl (hb hby d13_14) ?_
    refine XS.iloadN X0.here hx rfl (hb hby d13_16) rfl ?_
    refine XS.iadd X0.here hx rfl (hb hby d13_17) rfl ?_
    refine XS.icmpNo X0.here hx rfl (hb hby d13_18) rfl (tlt (by decide)).2.1 ?_
    refine XS.iloadN X0.here hx rfl (hb hby d13_21) rfl ?_
    refine XS.iconst X0.here hx rfl (hb hby d13_22) ?_
    refine XS.iand X0.here hx rfl (hb hby d13_23) rfl ?_
    refine XS.ifYes X0.here hx rfl (pc0 := 24) (pc' := 46) rfl (hb hby d13_24) rfl ((if0 _ _).trans (flt (by decide)).2.2.2) (by decide) (by decide) ?_
    refine XS.iload X0.here hx rfl (hb hby d13_46) rfl ?_
    refine XS.bipush X0.here hx rfl (hb hby d13_48) ?_
    refine XS.icmpNo X0.here hx rfl (hb hby d13_50) rfl (tlt (by decide)).2.1 ?_
    refine XS.aloadN X0.here hx rfl (hb hby d13_53) rfl rfl ?_
    refine XS.iloadN X0.here hx rfl (hb hby d13_54) rfl ?_
    refine XS.iload X0.here hx rfl (hb hby d13_55) rfl ?_
    refine st1 _ ?_
    show Steps p.tables e below (T1.setTop (mkF m 60 #[.val .null, .val (.ref a2), .val (.int (0 : Int32)), .val (.int (0 : Int32)), .val (.int (3 : Int32)), .val (.int (2 : Int32)), .val (.int (3 : Int32)), .unset, .unset, .unset, .unset, .unset, .unset, .unset, .unset, .unset, .unset, .unset, .unset, .unset, .unset, .unset, .unset, .unset, .unset] [])) _
    exact X1.returnOut hx Bd.returns (hb hby d13_60) hr
  · show Qrms3 Z a2 k x0 x1 x2 h0 n0 _ T1.heap _
    exact ⟨rfl, N1, K1, u1⟩
theorem ef_rmd3 (m : MethodId) (a1 : Addr) : entryFrame m #[(.ref a1), (.int (0 : Int32)), (.int (0 : Int32)), (.int (3 : Int32))] 7 = mkF m 0 #[.val (.ref a1), .val (.int (0 : Int32)), .val (.int (0 : Int32)), .val (.int (3 : Int32)), .unset, .unset, .unset] [] := by first | (simp [entryFrame, mkF, argsToLocals, Value.category]; done) | rfl
def Qrmd3 (Z : State) (a1 : Addr) (k : ClassId) (x0 : Int64) (x1 : Int64) (x2 : Int64) (h0 : Heap) (n0 : Nat) (v : Option Value) (h : Heap) (L : List Loc) : Prop := v = none ∧ Fr n0 L ∧ Keep h0 h [a1] ∧ ∃ y0 y1 y2 : Int64, Arv Z h a1 k .long (3 : Int32) [.long y0, .long y1, .long y2] (.long (0 : Int64)) ∧ (¬ y1 < y0 ∧ ¬ y2 < y1) ∧ ((y0 = x0 ∧ y1 = x1 ∧ y2 = x2) ∨ (y0 = x0 ∧ y1 = x2 ∧ y2 = x1) ∨ (y0 = x1 ∧ y1 = x0 ∧ y2 = x2) ∨ (y0 = x1 ∧ y1 = x2 ∧ y2 = x0) ∨ (y0 = x2 ∧ y1 = x0 ∧ y2 = x1) ∨ (y0 = x2 ∧ y1 = x1 ∧ y2 = x0))
set_option maxRecDepth 65536 in
set_option maxHeartbeats 40000000 in
theorem rmd3 (l : Launch) (Z : State) (a0 : Array Value) (hw : ∀ d ∈ tables_1, d.before a0 Z = true) (ws : List Jvm.Cond) (a1 : Addr) (k : ClassId) (x0 : Int64) (x1 : Int64) (x2 : Int64) (h0 : Heap) (n0 : Nat) (Z0 : n0 ≤ h0.size) (A : Arv Z h0 a1 k .long (3 : Int32) [.long x0, .long x1, .long x2] (.long (0 : Int64))) (ga : n0 ≤ a1) :
    MetFree l (⟨"java/util/DualPivotQuicksort", "sort", "([JIII)V"⟩ : MethodName) (head1 (Jvm.Cond.code (⟨"java/util/DualPivotQuicksort", "sort", "([JIII)V"⟩ : MethodName) jdk_2529_method_12_code 7 none :: ws) ({ frames := 2, cells := 0, slots := 0, locals := 54 } : Room)) (fun a U => a = #[(.ref a1), (.int (0 : Int32)), (.int (0 : Int32)), (.int (3 : Int32))] ∧ Z.Warmed39 U.vm ∧ U.heap = h0) (fun _ _ _ _ _ => True) (fun _ U o U' => ∃ v L, o = .returned v ∧ Qrmd3 Z a1 k x0 x1 x2 h0 n0 v U'.heap L ∧ FrameEnd U o U' L ({ frames := 2, cells := 0, slots := 0, locals := 54 } : Room).cells ({ frames := 2, cells := 0, slots := 0, locals := 54 } : Room).slots) := by
  refine MetFree.of_bodySF (plainFor_of_name pn_12) hisR ?_
  intro p e s m args below meth c s₁ Bd hml0 hP hK
  obtain ⟨rfl, hZ, hh⟩ := hP
  have hx := Bd.exec
  have hby := Bd.bytes
  have hml : c.maxLocals = 7 := hml0
  have hown : s.vm.findClass "java/util/DualPivotQuicksort" = some m.cls := findClass_of_methodNamed Bd.named
  have hnm := (name_of_methodNamed Bd.named Bd.method).1
  have X0 : Stand p l e ({ frames := 2, cells := 0, slots := 0, locals := 54 } : Room) s m #[(.ref a1), (.int (0 : Int32)), (.int (0 : Int32)), (.int (3 : Int32))] below meth c s₁ [] 0 0 := Stand.of_body Bd
  have e0 : s₁.heap = h0 := by rw [← hh, Bd.state]; rfl
  have N0 := Fr.nil n0
  have pre0 : ∀ t, Steps p.tables e below (s₁.setTop (mkF m 0 #[.val (.ref a1), .val (.int (0 : Int32)), .val (.int (0 : Int32)), .val (.int (3 : Int32)), .unset, .unset, .unset] [])) t → Steps p.tables e below (s₁.setTop (entryFrame m #[(.ref a1), (.int (0 : Int32)), (.int (0 : Int32)), (.int (3 : Int32))] 7)) t := fun t k => castTop (ef_rmd3 m a1) k
  obtain ⟨_, _, ⟨T1, Lq1, kq1, nq1⟩, -, X1, ⟨Lc1, hQ1, lq1, yq1, zq1⟩, st1⟩ := Jvm.LawKit.callS X0 hx (y := (⟨"java/util/DualPivotQuicksort", "sort", "(Ljava/util/DualPivotQuicksort$Sorter;[JIII)V"⟩ : MethodName)) hown (mvT hZ (hw _ (own_w 62 rfl))) (mvT hZ (hw _ (own_w 63 rfl))) (mvT hZ (hw _ (own_w 60 rfl))) (mvT hZ (hw _ (own_w 64 rfl))) (by decide) (backOf (W := 0) (rms3 l Z a0 hw [] a1 k x0 x1 x2 h0 n0 Z0 A ga) hZ (hw _ (own_w 64 rfl)) (hw _ (own_w 60 rfl)) (by decide) (by decide)) (g := (mkF m 73 #[.val (.ref a1), .val (.int (0 : Int32)), .val (.int (0 : Int32)), .val (.int (3 : Int32)), .val (.int (3 : Int32)), .unset, .unset] [(.int (3 : Int32)), (.int (0 : Int32)), (.int (0 : Int32)), (.ref a1), .null])) rfl (by rw [hml]; rfl) (argsL := [.null, (.ref a1), (.int (0 : Int32)), (.int (0 : Int32)), (.int (3 : Int32))]) (rest := []) (lenOf pd_7 rfl) rfl (by show 2 * 0 + _ ≤ _; exact Nat.le_of_eq rfl) (hb hby d12_73) (fun _ _ => ⟨rfl, e0, (by decide : 0 + 0 ≤ _), (by decide : 0 + 0 ≤ _)⟩)
  dsimp only [Pt.U, Pt.locs, Pt.cells, Pt.slots] at X1 lq1 yq1 zq1 st1 hQ1
  subst lq1 yq1 zq1
  obtain ⟨rfl, N1q, KC1, u1⟩ := hQ1
  have N1 := Fr.app N0 N1q
  have Z1 : n0 ≤ T1.heap.size := Nat.le_trans Z0 KC1.1
  have K1 : Keep h0 T1.heap [a1] := (Keep.refl h0 [a1]).trans KC1 (allS (Or.inl (own_w 0 rfl)) all0)
  obtain ⟨y1_0, y1_1, y1_2, AV1, so1, pm1⟩ := id u1
  obtain ⟨fs, hr, hrun, hended, hW, hsame⟩ := X1.leave (v := none) (fun _ => rfl) (BodyLoose.notSynchronized Bd)
  refine ⟨_, _, pre0 _ ?_, hrun, hended, _, _, rfl, ?_, ⟨_, rfl⟩, hW, hsame.mono (by decide) (by decide)⟩
  · show Steps p.tables e below (s₁.setTop (mkF m 0 #[.val (.ref a1), .val (.int (0 : Int32)), .val (.int (0 : Int32)), .val (.int (3 : Int32)), .unset, .unset, .unset] [])) _
    refine XS.iloadN X0.here hx rfl (hb hby d12_0) rfl ?_
    refine XS.iloadN X0.here hx rfl (hb hby d12_1) rfl ?_
    refine XS.isub X0.here hx rfl (hb hby d12_2) rfl ?_
    refine XS.istore X0.here hx rfl (hb hby d12_3) rfl (l' := #[.val (.ref a1), .val (.int (0 : Int32)), .val (.int (0 : Int32)), .val (.int (3 : Int32)), .val (.int (3 : Int32)), .unset, .unset]) rfl ?_
    refine XS.iloadN X0.here hx rfl (hb hby d12_5) rfl ?_
    refine XS.iconst X0.here hx rfl (hb hby d12_6) ?_
    refine XS.icmpYes X0.here hx rfl (pc0 := 7) (pc' := 68) rfl (hb hby d12_7) rfl (flt (by decide)).2.2.2 (by decide) (by decide) ?_
    refine XS.aconstNull X0.here hx rfl (hb hby d12_68) ?_
    refine XS.aloadN X0.here hx rfl (hb hby d12_69) rfl rfl ?_
    refine XS.iconst X0.here hx rfl (hb hby d12_70) ?_
    refine XS.iloadN X0.here hx rfl (hb hby d12_71) rfl ?_
    refine XS.iloadN X0.here hx rfl (hb hby d12_72) rfl ?_
    refine st1 _ ?_
    show Steps p.tables e below (T1.setTop (mkF m 76 #[.val (.ref a1), .val (.int (0 : Int32)), .val (.int (0 : Int32)), .val (.int (3 : Int32)), .val (.int (3 : Int32)), .unset, .unset] [])) _
    exact X1.returnOut hx Bd.returns (hb hby d12_76) hr
  · show Qrmd3 Z a1 k x0 x1 x2 h0 n0 _ T1.heap _
    exact ⟨rfl, N1, K1, u1⟩
theorem ef_rma3 (m : MethodId) (a1 : Addr) : entryFrame m #[(.ref a1)] 1 = mkF m 0 #[.val (.ref a1)] [] := by first | (simp [entryFrame, mkF, argsToLocals, Value.category]; done) | rfl
def Qrma3 (Z : State) (a1 : Addr) (k : ClassId) (x0 : Int64) (x1 : Int64) (x2 : Int64) (h0 : Heap) (n0 : Nat) (v : Option Value) (h : Heap) (L : List Loc) : Prop := v = none ∧ Fr n0 L ∧ Keep h0 h [a1] ∧ ∃ y0 y1 y2 : Int64, Arv Z h a1 k .long (3 : Int32) [.long y0, .long y1, .long y2] (.long (0 : Int64)) ∧ (¬ y1 < y0 ∧ ¬ y2 < y1) ∧ ((y0 = x0 ∧ y1 = x1 ∧ y2 = x2) ∨ (y0 = x0 ∧ y1 = x2 ∧ y2 = x1) ∨ (y0 = x1 ∧ y1 = x0 ∧ y2 = x2) ∨ (y0 = x1 ∧ y1 = x2 ∧ y2 = x0) ∨ (y0 = x2 ∧ y1 = x0 ∧ y2 = x1) ∨ (y0 = x2 ∧ y1 = x1 ∧ y2 = x0))
set_option maxRecDepth 65536 in
set_option maxHeartbeats 40000000 in
theorem rma3 (l : Launch) (Z : State) (a0 : Array Value) (hw : ∀ d ∈ tables_1, d.before a0 Z = true) (ws : List Jvm.Cond) (a1 : Addr) (k : ClassId) (x0 : Int64) (x1 : Int64) (x2 : Int64) (h0 : Heap) (n0 : Nat) (Z0 : n0 ≤ h0.size) (A : Arv Z h0 a1 k .long (3 : Int32) [.long x0, .long x1, .long x2] (.long (0 : Int64))) (ga : n0 ≤ a1) :
    MetFree l (⟨"java/util/Arrays", "sort", "([J)V"⟩ : MethodName) (head1 (Jvm.Cond.code (⟨"java/util/Arrays", "sort", "([J)V"⟩ : MethodName) jdk_65_method_4_code 1 none :: ws) ({ frames := 3, cells := 0, slots := 0, locals := 72 } : Room)) (fun a U => a = #[(.ref a1)] ∧ Z.Warmed39 U.vm ∧ U.heap = h0) (fun _ _ _ _ _ => True) (fun _ U o U' => ∃ v L, o = .returned v ∧ Qrma3 Z a1 k x0 x1 x2 h0 n0 v U'.heap L ∧ FrameEnd U o U' L ({ frames := 3, cells := 0, slots := 0, locals := 72 } : Room).cells ({ frames := 3, cells := 0, slots := 0, locals := 72 } : Room).slots) := by
  refine MetFree.of_bodySF (plainFor_of_name pn_11) hisR ?_
  intro p e s m args below meth c s₁ Bd hml0 hP hK
  obtain ⟨rfl, hZ, hh⟩ := hP
  have hx := Bd.exec
  have hby := Bd.bytes
  have hml : c.maxLocals = 1 := hml0
  have hown : s.vm.findClass "java/util/Arrays" = some m.cls := findClass_of_methodNamed Bd.named
  have hnm := (name_of_methodNamed Bd.named Bd.method).1
  have X0 : Stand p l e ({ frames := 3, cells := 0, slots := 0, locals := 72 } : Room) s m #[(.ref a1)] below meth c s₁ [] 0 0 := Stand.of_body Bd
  have e0 : s₁.heap = h0 := by rw [← hh, Bd.state]; rfl
  have N0 := Fr.nil n0
  have pre0 : ∀ t, Steps p.tables e below (s₁.setTop (mkF m 0 #[.val (.ref a1)] [])) t → Steps p.tables e below (s₁.setTop (entryFrame m #[(.ref a1)] 1)) t := fun t k => castTop (ef_rma3 m a1) k
  obtain ⟨cl1, Ar1, qk1, Sz1, Nn1, Hh1, Gg1⟩ := id (A)
  obtain ⟨_, _, ⟨T2, Lq2, kq2, nq2⟩, -, X2, ⟨Lc2, hQ2, lq2, yq2, zq2⟩, st2⟩ := Jvm.LawKit.callS X0 hx (y := (⟨"java/util/DualPivotQuicksort", "sort", "([JIII)V"⟩ : MethodName)) hown (mvT hZ (hw _ (own_w 58 rfl))) (mvT hZ (hw _ (own_w 59 rfl))) (mvT hZ (hw _ (own_w 60 rfl))) (mvT hZ (hw _ (own_w 61 rfl))) (by decide) (backOf (W := 0) (rmd3 l Z a0 hw [] a1 k x0 x1 x2 h0 n0 Z0 A ga) hZ (hw _ (own_w 61 rfl)) (hw _ (own_w 60 rfl)) (by decide) (by decide)) (g := (mkF m 5 #[.val (.ref a1)] [(.int (3 : Int32)), (.int (0 : Int32)), (.int (0 : Int32)), (.ref a1)])) rfl (by rw [hml]; rfl) (argsL := [(.ref a1), (.int (0 : Int32)), (.int (0 : Int32)), (.int (3 : Int32))]) (rest := []) (lenOf pd_8 rfl) rfl (by show 2 * 0 + _ ≤ _; exact Nat.le_of_eq rfl) (hb hby d11_5) (fun _ _ => ⟨rfl, e0, (by decide : 0 + 0 ≤ _), (by decide : 0 + 0 ≤ _)⟩)
  dsimp only [Pt.U, Pt.locs, Pt.cells, Pt.slots] at X2 lq2 yq2 zq2 st2 hQ2
  subst lq2 yq2 zq2
  obtain ⟨rfl, N2q, KC2, u2⟩ := hQ2
  have N2 := Fr.app N0 N2q
  have Z2 : n0 ≤ T2.heap.size := Nat.le_trans Z0 KC2.1
  have K2 : Keep h0 T2.heap [a1] := (Keep.refl h0 [a1]).trans KC2 (allS (Or.inl (own_w 0 rfl)) all0)
  obtain ⟨y2_0, y2_1, y2_2, AV2, so2, pm2⟩ := id u2
  obtain ⟨fs, hr, hrun, hended, hW, hsame⟩ := X2.leave (v := none) (fun _ => rfl) (BodyLoose.notSynchronized Bd)
  refine ⟨_, _, pre0 _ ?_, hrun, hended, _, _, rfl, ?_, ⟨_, rfl⟩, hW, hsame.mono (by decide) (by decide)⟩
  · show Steps p.tables e below (s₁.setTop (mkF m 0 #[.val (.ref a1)] [])) _
    refine XS.aloadN X0.here hx rfl (hb hby d11_0) rfl rfl ?_
    refine XS.iconst X0.here hx rfl (hb hby d11_1) ?_
    refine XS.iconst X0.here hx rfl (hb hby d11_2) ?_
    refine XS.aloadN X0.here hx rfl (hb hby d11_3) rfl rfl ?_
    refine X0.arraylength hx (by rw [e0]; exact Ar1.1) (State.isArrayOf_alike hZ.alike Ar1.2.1) (g := (mkF m 4 #[.val (.ref a1)] [(.ref a1), (.int (0 : Int32)), (.int (0 : Int32)), (.ref a1)])) rfl rfl (hb hby d11_4) _ ?_
    rw [len_of Sz1 Nn1]
    show Steps p.tables e below (s₁.setTop (mkF m 5 #[.val (.ref a1)] [(.int (3 : Int32)), (.int (0 : Int32)), (.int (0 : Int32)), (.ref a1)])) _
    refine st2 _ ?_
    show Steps p.tables e below (T2.setTop (mkF m 8 #[.val (.ref a1)] [])) _
    exact X2.returnOut hx Bd.returns (hb hby d11_8) hr
  · show Qrma3 Z a1 k x0 x1 x2 h0 n0 _ T2.heap _
    exact ⟨rfl, N2, K2, u2⟩
theorem own_pp {i : Nat} (h : i < 8) : own_p i + (2 : Int32) = own_p (i + 1) := (by decide +kernel : ∀ i : Fin 8, own_p i.1 + (2 : Int32) = own_p (i.1 + 1)) ⟨i, h⟩
theorem own_pend {n : Nat} (hn : n = 4 ∨ n = 8) : ¬ own_p n < Int32.ofNat (2 * n) := by rcases hn with rfl | rfl <;> decide
theorem d10_21 : decode prog_19_method_5_code 21 = .ok (.iload_n 2, 1) := by decide +kernel
theorem d10_22 : decode prog_19_method_5_code 22 = .ok (.aload_n 0, 1) := by decide +kernel
theorem d10_23 : decode prog_19_method_5_code 23 = .ok (.getfield 14, 3) := by decide +kernel
theorem d10_26 : decode prog_19_method_5_code 26 = .ok (.arraylength, 1) := by decide +kernel
theorem d10_27 : decode prog_19_method_5_code 27 = .ok (.if_icmp .ge 37, 3) := by decide +kernel
theorem d10_30 : decode prog_19_method_5_code 30 = .ok (.aload_n 0, 1) := by decide +kernel
theorem d10_31 : decode prog_19_method_5_code 31 = .ok (.getfield 14, 3) := by decide +kernel
theorem d10_34 : decode prog_19_method_5_code 34 = .ok (.iload_n 2, 1) := by decide +kernel
theorem d10_35 : decode prog_19_method_5_code 35 = .ok (.laload, 1) := by decide +kernel
theorem d10_36 : decode prog_19_method_5_code 36 = .ok (.ldc2_w 18, 3) := by decide +kernel
theorem d10_39 : decode prog_19_method_5_code 39 = .ok (.lcmp, 1) := by decide +kernel
theorem d10_40 : decode prog_19_method_5_code 40 = .ok (.ifCond .eq 18, 3) := by decide +kernel
theorem d10_43 : decode prog_19_method_5_code 43 = .ok (.aload_n 0, 1) := by decide +kernel
theorem d10_44 : decode prog_19_method_5_code 44 = .ok (.getfield 41, 3) := by decide +kernel
theorem d10_47 : decode prog_19_method_5_code 47 = .ok (.iload_n 1, 1) := by decide +kernel
theorem d10_48 : decode prog_19_method_5_code 48 = .ok (.iinc 1 1, 3) := by decide +kernel
theorem d10_51 : decode prog_19_method_5_code 51 = .ok (.aload_n 0, 1) := by decide +kernel
theorem d10_52 : decode prog_19_method_5_code 52 = .ok (.getfield 14, 3) := by decide +kernel
theorem d10_55 : decode prog_19_method_5_code 55 = .ok (.iload_n 2, 1) := by decide +kernel
theorem d10_56 : decode prog_19_method_5_code 56 = .ok (.laload, 1) := by decide +kernel
theorem d10_57 : decode prog_19_method_5_code 57 = .ok (.lastore, 1) := by decide +kernel
theorem d10_58 : decode prog_19_method_5_code 58 = .ok (.iinc 2 2, 3) := by decide +kernel
theorem d10_61 : decode prog_19_method_5_code 61 = .ok (.goto (-40), 3) := by decide +kernel
set_option maxRecDepth 65536 in
set_option maxHeartbeats 40000000 in
theorem own_sk {p : Program} {l : Launch} {e : Env} {R : Room} {s : State} {m : MethodId} {args : Array Value} {below : List Frame} {meth : Method} {c : Code} {cells slots : Nat} {Z : State} {a0 : Array Value} {a1 a sa : Addr} {k sk : ClassId} {arr : List Int64} {n z : Nat} {n0 : Nat} {hs : Int64 → Nat} {D : Int64 → Prop} {mm : Int64 → Int64} (hx : p.tables.exec = Jvm.exec) (hZ : Z.Warmed39 s.vm) (hw : ∀ d ∈ tables_1, d.before a0 Z = true) (hby : c.code = prog_19_method_5_code) (hml : c.maxLocals = 3) (hown : s.vm.findClass "com/example/pricewright/pricewright/core/LongSumTable" = some m.cls) (hn : n = 4 ∨ n = 8) (hz : z < 4) (Rp : own_Rep (own_K arr) (own_W arr) n hs D mm z) (hna : a ≠ sa) (hn1 : a1 ≠ sa) (gs : n0 ≤ sa) (f : Nat) :
    ∀ (i : Nat), i + f = n → ∀ (T0 : State) (h : Heap) (L0 : List Loc), Stand p l e R s m args below meth c T0 L0 cells slots → T0.heap = h → Fr n0 L0 → n0 ≤ h.size → Fld Z h a1 "com/example/pricewright/pricewright/core/LongSumTable" "slots" "[J" (.ref a) → Fld Z h a1 "com/example/pricewright/pricewright/core/LongSumTable" "sorted" "[J" (.ref sa) → Arv Z h a k .long (Int32.ofNat (2 * n)) (arr.map Value.long) (.long (0 : Int64)) → Arv Z h sa sk .long (Int32.ofNat z) ((own_pad (own_K arr) i z).map Value.long) (.long (0 : Int64)) →
    ∃ (T' : State) (h' : Heap) (L' : List Loc), Stand p l e R s m args below meth c T' L' cells slots ∧ T'.heap = h' ∧ Fr n0 L' ∧ n0 ≤ h'.size ∧ Keep h h' [sa] ∧ Arv Z h' sa sk .long (Int32.ofNat z) ((own_pad (own_K arr) n z).map Value.long) (.long (0 : Int64)) ∧ ∀ target, Steps p.tables e below (T'.setTop (mkF m 64 #[.val (.ref a1), .val (.int (Int32.ofNat (own_cnt (own_K arr) n))), .val (.int (own_p n))] [])) target → Steps p.tables e below (T0.setTop (mkF m 21 #[.val (.ref a1), .val (.int (Int32.ofNat (own_cnt (own_K arr) i))), .val (.int (own_p i))] [])) target := by
  induction f with
  | zero =>
    intro i hin T0 h L0 X0 e0 N0 Z0 FS FQ AV VS
    have hie : n = i := by omega
    obtain ⟨T1, X1, e1, st1⟩ := getF X0 hx hZ hown (host := "") (Or.inl (hw _ (own_w 18 rfl))) Via.refl e0 FS (g := (mkF m 23 #[.val (.ref a1), .val (.int (Int32.ofNat (own_cnt (own_K arr) i))), .val (.int (own_p i))] [(.ref a1), (.int (own_p i))])) rfl rfl (hb hby d10_23)
    obtain ⟨cl2, Ar2, qk2, Sz2, Nn2, Hh2, Gg2⟩ := id (AV)
    refine ⟨T1, _, _, X1, e1, N0, Z0, Keep.refl _ _, by rw [show own_pad (own_K arr) n z = own_pad (own_K arr) i z by rw [hie]]; exact VS, fun target kt => ?_⟩
    rw [show own_cnt (own_K arr) n = own_cnt (own_K arr) i by rw [hie], show own_p n = own_p i by rw [hie]] at kt
    show Steps p.tables e below (T0.setTop (mkF m 21 #[.val (.ref a1), .val (.int (Int32.ofNat (own_cnt (own_K arr) i))), .val (.int (own_p i))] [])) _
    refine XS.iloadN X0.here hx rfl (hb hby d10_21) rfl ?_
    refine XS.aloadN X0.here hx rfl (hb hby d10_22) rfl rfl ?_
    refine st1 _ ?_
    refine X1.arraylength hx (by rw [e1]; exact Ar2.1) (State.isArrayOf_alike hZ.alike Ar2.2.1) (g := (mkF m 26 #[.val (.ref a1), .val (.int (Int32.ofNat (own_cnt (own_K arr) i))), .val (.int (own_p i))] [(.ref a), (.int (own_p i))])) rfl rfl (hb hby d10_26) _ ?_
    rw [len_of Sz2 Nn2]
    show Steps p.tables e below (T1.setTop (mkF m 27 #[.val (.ref a1), .val (.int (Int32.ofNat (own_cnt (own_K arr) i))), .val (.int (own_p i))] [(.int (Int32.ofNat (2 * n))), (.int (own_p i))])) _
    refine XS.icmpYes X1.here hx rfl (pc0 := 27) (pc' := 64) rfl (hb hby d10_27) rfl (flt (by rw [← hie]; exact own_pend hn)).2.1 (by decide) (by decide) ?_
    exact kt
  | succ f ih =>
    intro i hin T0 h L0 X0 e0 N0 Z0 FS FQ AV VS
    have hi : i < n := by omega
    obtain ⟨T1, X1, e1, st1⟩ := getF X0 hx hZ hown (host := "") (Or.inl (hw _ (own_w 18 rfl))) Via.refl e0 FS (g := (mkF m 23 #[.val (.ref a1), .val (.int (Int32.ofNat (own_cnt (own_K arr) i))), .val (.int (own_p i))] [(.ref a1), (.int (own_p i))])) rfl rfl (hb hby d10_23)
    obtain ⟨cl2, Ar2, qk2, Sz2, Nn2, Hh2, Gg2⟩ := id (AV)
    obtain ⟨T3, X3, e3, st3⟩ := getF X1 hx hZ hown (host := "") (Or.inl (hw _ (own_w 18 rfl))) Via.refl e1 FS (g := (mkF m 31 #[.val (.ref a1), .val (.int (Int32.ofNat (own_cnt (own_K arr) i))), .val (.int (own_p i))] [(.ref a1)])) rfl rfl (hb hby d10_31)
    obtain ⟨cl4, Ar4, qk4, Sz4, Nn4, Hh4, Gg4⟩ := id (AV)
    have hin5 : ¬ ((own_p i) < 0 ∨ cl4.slots.size ≤ ((own_p i)).toNatClampNeg) := inb_of Sz4 ⟨own_p0 (own_lt8 hi hn), own_plt hi hn⟩
    have hat5 : cl4.slots[((own_p i)).toNatClampNeg]? = some (.long (own_K arr i)) := Has.at Hh4 hin5 (own_ldK arr (own_lt8 hi hn))
    by_cases hc40 : (own_K arr i) = (-9223372036854775808 : Int64)
    · have VN : Arv Z h sa sk .long (Int32.ofNat z) ((own_pad (own_K arr) (i + 1) z).map Value.long) (.long (0 : Int64)) := by rw [own_padS hc40]; exact VS
      obtain ⟨T', h', L', X', e', N', Z', K', A', st'⟩ := ih (i + 1) (by omega) T3 _ _ X3 e3 N0 Z0 FS FQ AV VN
      refine ⟨T', h', L', X', e', N', Z', K', A', fun target kt => ?_⟩
      have kq := st' target kt
      rw [own_cntS hc40, ← own_pp (own_lt8 hi hn)] at kq
      show Steps p.tables e below (T0.setTop (mkF m 21 #[.val (.ref a1), .val (.int (Int32.ofNat (own_cnt (own_K arr) i))), .val (.int (own_p i))] [])) _
      refine XS.iloadN X0.here hx rfl (hb hby d10_21) rfl ?_
      refine XS.aloadN X0.here hx rfl (hb hby d10_22) rfl rfl ?_
      refine st1 _ ?_
      refine X1.arraylength hx (by rw [e1]; exact Ar2.1) (State.isArrayOf_alike hZ.alike Ar2.2.1) (g := (mkF m 26 #[.val (.ref a1), .val (.int (Int32.ofNat (own_cnt (own_K arr) i))), .val (.int (own_p i))] [(.ref a), (.int (own_p i))])) rfl rfl (hb hby d10_26) _ ?_
      rw [len_of Sz2 Nn2]
      show Steps p.tables e below (T1.setTop (mkF m 27 #[.val (.ref a1), .val (.int (Int32.ofNat (own_cnt (own_K arr) i))), .val (.int (own_p i))] [(.int (Int32.ofNat (2 * n))), (.int (own_p i))])) _
      refine XS.icmpNo X1.here hx rfl (hb hby d10_27) rfl (tlt (own_plt hi hn)).2.1 ?_
      refine XS.aloadN X1.here hx rfl (hb hby d10_30) rfl rfl ?_
      refine st3 _ ?_
      refine XS.iloadN X3.here hx rfl (hb hby d10_34) rfl ?_
      refine X3.laload hx (j := (own_p i)) (v := (.long (own_K arr i))) (by rw [e3]; exact Ar4.1) (State.isArrayOf_alike hZ.alike Ar4.2.1) Ar4.2.2 hin5 hat5 (g := (mkF m 35 #[.val (.ref a1), .val (.int (Int32.ofNat (own_cnt (own_K arr) i))), .val (.int (own_p i))] [(.int (own_p i)), (.ref a)])) rfl rfl (hb hby d10_35) _ ?_
      refine X3.ldc2Long hx hown (mvT hZ (hw _ (own_w 20 rfl))) (g := (mkF m 36 #[.val (.ref a1), .val (.int (Int32.ofNat (own_cnt (own_K arr) i))), .val (.int (own_p i))] [(.long (own_K arr i))])) rfl (hb hby d10_36) _ ?_
      refine XS.lcmp X3.here hx rfl (hb hby d10_39) rfl ?_
      refine XS.ifYes X3.here hx rfl (pc0 := 40) (pc' := 58) rfl (hb hby d10_40) rfl ((if0 _ _).trans (teq (own_lceq hc40)).1) (by decide) (by decide) ?_
      refine XS.iinc X3.here hx rfl (hb hby d10_58) rfl (l' := #[.val (.ref a1), .val (.int (Int32.ofNat (own_cnt (own_K arr) i))), .val (.int ((own_p i) + (2 : Int32)))]) rfl ?_
      refine XS.goto X3.here hx rfl (pc0 := 61) (pc' := 21) rfl (hb hby d10_61) (by decide) (by decide) ?_
      exact kq
    · obtain ⟨T6, X6, e6, st6⟩ := getF X3 hx hZ hown (host := "") (Or.inl (hw _ (own_w 45 rfl))) Via.refl e3 FQ (g := (mkF m 44 #[.val (.ref a1), .val (.int (Int32.ofNat (own_cnt (own_K arr) i))), .val (.int (own_p i))] [(.ref a1)])) rfl rfl (hb hby d10_44)
      obtain ⟨T7, X7, e7, st7⟩ := getF X6 hx hZ hown (host := "") (Or.inl (hw _ (own_w 18 rfl))) Via.refl e6 FS (g := (mkF m 52 #[.val (.ref a1), .val (.int ((Int32.ofNat (own_cnt (own_K arr) i)) + (1 : Int32))), .val (.int (own_p i))] [(.ref a1), (.int (Int32.ofNat (own_cnt (own_K arr) i))), (.ref sa)])) rfl rfl (hb hby d10_52)
      obtain ⟨cl8, Ar8, qk8, Sz8, Nn8, Hh8, Gg8⟩ := id (AV)
      have hin9 : ¬ ((own_p i) < 0 ∨ cl8.slots.size ≤ ((own_p i)).toNatClampNeg) := inb_of Sz8 ⟨own_p0 (own_lt8 hi hn), own_plt hi hn⟩
      have hat9 : cl8.slots[((own_p i)).toNatClampNeg]? = some (.long (own_K arr i)) := Has.at Hh8 hin9 (own_ldK arr (own_lt8 hi hn))
      have hlt : own_cnt (own_K arr) i < z := by have w1 := own_cnt_mono (own_K arr) (show i + 1 ≤ n by omega); have w2 : own_cnt (own_K arr) (i + 1) = own_cnt (own_K arr) i + 1 := own_cntP hc40; have w3 := Rp.2.2.2; omega
      have hc3 := own_c3 (c := own_cnt (own_K arr) i) (by omega)
      obtain ⟨cl10, Ar10, qk10, Sz10, Nn10, Hh10, Gg10⟩ := id (VS)
      have hin11 : ¬ ((Int32.ofNat (own_cnt (own_K arr) i)) < 0 ∨ cl10.slots.size ≤ ((Int32.ofNat (own_cnt (own_K arr) i))).toNatClampNeg) := inb_of Sz10 ⟨hc3.2, own_c3lt hlt (by omega)⟩
      obtain ⟨T11, h11, X11, e11, W11, st11⟩ := stJ X7 hx hZ e7 Ar10 (j := (Int32.ofNat (own_cnt (own_K arr) i))) hin11 (g := (mkF m 57 #[.val (.ref a1), .val (.int ((Int32.ofNat (own_cnt (own_K arr) i)) + (1 : Int32))), .val (.int (own_p i))] [(.long (own_K arr i)), (.int (Int32.ofNat (own_cnt (own_K arr) i))), (.ref sa)])) rfl rfl (hb hby d10_57)
      have N11 := Fr.snoc X11 N0 gs
      have Z11 : n0 ≤ h11.size := by rw [W11.size]; exact Z0
      have V11 : Arv Z h11 sa sk .long (Int32.ofNat z) (((own_pad (own_K arr) i z).set (own_cnt (own_K arr) i) (own_K arr i)).map Value.long) (.long (0 : Int64)) := by
        have q := Arv.set Ar10 qk10 Sz10 Nn10 Hh10 Gg10 rfl W11 (own_cnt (own_K arr) i) hc3.1 (by rw [List.length_map, own_pad_len _ (by omega)]; exact hlt)
        rw [List.map_set]; exact q
      have VN : Arv Z h11 sa sk .long (Int32.ofNat z) ((own_pad (own_K arr) (i + 1) z).map Value.long) (.long (0 : Int64)) := by rw [own_padP hc40 hlt]; exact V11
      have f12 := (FS.other W11 (Or.inl hn1))
      have f13 := (FQ.other W11 (Or.inl hn1))
      have f14 := (AV.other W11 hna)
      obtain ⟨T', h', L', X', e', N', Z', K', A', st'⟩ := ih (i + 1) (by omega) T11 _ _ X11 e11 N11 Z11 f12 f13 f14 VN
      refine ⟨T', h', L', X', e', N', Z', (Keep.of_wr W11).trans K' (allS (Or.inl (own_w 0 rfl)) all0), A', fun target kt => ?_⟩
      have kq := st' target kt
      rw [own_cntP hc40, ← own_c3s (by omega), ← own_pp (own_lt8 hi hn)] at kq
      show Steps p.tables e below (T0.setTop (mkF m 21 #[.val (.ref a1), .val (.int (Int32.ofNat (own_cnt (own_K arr) i))), .val (.int (own_p i))] [])) _
      refine XS.iloadN X0.here hx rfl (hb hby d10_21) rfl ?_
      refine XS.aloadN X0.here hx rfl (hb hby d10_22) rfl rfl ?_
      refine st1 _ ?_
      refine X1.arraylength hx (by rw [e1]; exact Ar2.1) (State.isArrayOf_alike hZ.alike Ar2.2.1) (g := (mkF m 26 #[.val (.ref a1), .val (.int (Int32.ofNat (own_cnt (own_K arr) i))), .val (.int (own_p i))] [(.ref a), (.int (own_p i))])) rfl rfl (hb hby d10_26) _ ?_
      rw [len_of Sz2 Nn2]
      show Steps p.tables e below (T1.setTop (mkF m 27 #[.val (.ref a1), .val (.int (Int32.ofNat (own_cnt (own_K arr) i))), .val (.int (own_p i))] [(.int (Int32.ofNat (2 * n))), (.int (own_p i))])) _
      refine XS.icmpNo X1.here hx rfl (hb hby d10_27) rfl (tlt (own_plt hi hn)).2.1 ?_
      refine XS.aloadN X1.here hx rfl (hb hby d10_30) rfl rfl ?_
      refine st3 _ ?_
      refine XS.iloadN X3.here hx rfl (hb hby d10_34) rfl ?_
      refine X3.laload hx (j := (own_p i)) (v := (.long (own_K arr i))) (by rw [e3]; exact Ar4.1) (State.isArrayOf_alike hZ.alike Ar4.2.1) Ar4.2.2 hin5 hat5 (g := (mkF m 35 #[.val (.ref a1), .val (.int (Int32.ofNat (own_cnt (own_K arr) i))), .val (.int (own_p i))] [(.int (own_p i)), (.ref a)])) rfl rfl (hb hby d10_35) _ ?_
      refine X3.ldc2Long hx hown (mvT hZ (hw _ (own_w 20 rfl))) (g := (mkF m 36 #[.val (.ref a1), .val (.int (Int32.ofNat (own_cnt (own_K arr) i))), .val (.int (own_p i))] [(.long (own_K arr i))])) rfl (hb hby d10_36) _ ?_
      refine XS.lcmp X3.here hx rfl (hb hby d10_39) rfl ?_
      refine XS.ifNo X3.here hx rfl (hb hby d10_40) rfl ((if0 _ _).trans (feq (own_lcne hc40)).1) ?_
      refine XS.aloadN X3.here hx rfl (hb hby d10_43) rfl rfl ?_
      refine st6 _ ?_
      refine XS.iloadN X6.here hx rfl (hb hby d10_47) rfl ?_
      refine XS.iinc X6.here hx rfl (hb hby d10_48) rfl (l' := #[.val (.ref a1), .val (.int ((Int32.ofNat (own_cnt (own_K arr) i)) + (1 : Int32))), .val (.int (own_p i))]) rfl ?_
      refine XS.aloadN X6.here hx rfl (hb hby d10_51) rfl rfl ?_
      refine st7 _ ?_
      refine XS.iloadN X7.here hx rfl (hb hby d10_55) rfl ?_
      refine X7.laload hx (j := (own_p i)) (v := (.long (own_K arr i))) (by rw [e7]; exact Ar8.1) (State.isArrayOf_alike hZ.alike Ar8.2.1) Ar8.2.2 hin9 hat9 (g := (mkF m 56 #[.val (.ref a1), .val (.int ((Int32.ofNat (own_cnt (own_K arr) i)) + (1 : Int32))), .val (.int (own_p i))] [(.int (own_p i)), (.ref a), (.int (Int32.ofNat (own_cnt (own_K arr) i))), (.ref sa)])) rfl rfl (hb hby d10_56) _ ?_
      refine st11 _ ?_
      refine XS.iinc X11.here hx rfl (hb hby d10_58) rfl (l' := #[.val (.ref a1), .val (.int ((Int32.ofNat (own_cnt (own_K arr) i)) + (1 : Int32))), .val (.int ((own_p i) + (2 : Int32)))]) rfl ?_
      refine XS.goto X11.here hx rfl (pc0 := 61) (pc' := 21) rfl (hb hby d10_61) (by decide) (by decide) ?_
      exact kq
theorem pd_9 : parseMethodDescriptor "([J)V" = some ⟨[(.array .long)], none⟩ := by decide +kernel
theorem d10_0 : decode prog_19_method_5_code 0 = .ok (.aload_n 0, 1) := by decide +kernel
theorem d10_1 : decode prog_19_method_5_code 1 = .ok (.getfield 41, 3) := by decide +kernel
theorem d10_4 : decode prog_19_method_5_code 4 = .ok (.ifnonnull 67, 3) := by decide +kernel
theorem d10_7 : decode prog_19_method_5_code 7 = .ok (.aload_n 0, 1) := by decide +kernel
theorem d10_8 : decode prog_19_method_5_code 8 = .ok (.aload_n 0, 1) := by decide +kernel
theorem d10_9 : decode prog_19_method_5_code 9 = .ok (.getfield 44, 3) := by decide +kernel
theorem d10_12 : decode prog_19_method_5_code 12 = .ok (.newarray .long, 2) := by decide +kernel
theorem d10_14 : decode prog_19_method_5_code 14 = .ok (.putfield 41, 3) := by decide +kernel
theorem d10_17 : decode prog_19_method_5_code 17 = .ok (.iconst 0, 1) := by decide +kernel
theorem d10_18 : decode prog_19_method_5_code 18 = .ok (.istore_n 1, 1) := by decide +kernel
theorem d10_19 : decode prog_19_method_5_code 19 = .ok (.iconst 0, 1) := by decide +kernel
theorem d10_20 : decode prog_19_method_5_code 20 = .ok (.istore_n 2, 1) := by decide +kernel
theorem d10_64 : decode prog_19_method_5_code 64 = .ok (.aload_n 0, 1) := by decide +kernel
theorem d10_65 : decode prog_19_method_5_code 65 = .ok (.getfield 41, 3) := by decide +kernel
theorem d10_68 : decode prog_19_method_5_code 68 = .ok (.invokestatic 50, 3) := by decide +kernel
theorem d10_71 : decode prog_19_method_5_code 71 = .ok (.aload_n 0, 1) := by decide +kernel
theorem d10_72 : decode prog_19_method_5_code 72 = .ok (.getfield 41, 3) := by decide +kernel
theorem d10_75 : decode prog_19_method_5_code 75 = .ok (.areturn, 1) := by decide +kernel
theorem pn_10 : plainName "com/example/pricewright/pricewright/core/LongSumTable" = true := by first | (simp [plainName, overriddenIn]; done) | decide +kernel
theorem ef_rmK4_1 (m : MethodId) (a1 : Addr) : entryFrame m #[(.ref a1)] 3 = mkF m 0 #[.val (.ref a1), .unset, .unset] [] := by first | (simp [entryFrame, mkF, argsToLocals, Value.category]; done) | rfl
def QrmK4_1 (Z : State) (a1 : Addr) (a : Addr) (k : ClassId) (arr : List Int64) (D : Int64 → Prop) (mm : Int64 → Int64) (h0 : Heap) (n0 : Nat) (v : Option Value) (h : Heap) (L : List Loc) : Prop := ∃ (sa : Addr) (sk : ClassId) (y0 : Int64), v = some (.ref sa) ∧ Fr n0 L ∧ Keep h0 h [a1] ∧ n0 ≤ sa ∧ h0.size ≤ sa ∧ Exa Z h a1 "com/example/pricewright/pricewright/core/LongSumTable" ∧ Fld Z h a1 "com/example/pricewright/pricewright/core/LongSumTable" "slots" "[J" (.ref a) ∧ Fld Z h a1 "com/example/pricewright/pricewright/core/LongSumTable" "shift" "I" (.int (62 : Int32)) ∧ Fld Z h a1 "com/example/pricewright/pricewright/core/LongSumTable" "size" "I" (.int (1 : Int32)) ∧ Fld Z h a1 "com/example/pricewright/pricewright/core/LongSumTable" "sorted" "[J" (.ref sa) ∧ Arv Z h sa sk .long (1 : Int32) [.long y0] (.long (0 : Int64)) ∧ (True) ∧ ∀ x, D x ↔ (x = y0)
set_option maxRecDepth 65536 in
set_option maxHeartbeats 40000000 in
theorem rmK4_1 (l : Launch) (Z : State) (a0 : Array Value) (hw : ∀ d ∈ tables_1, d.before a0 Z = true) (ws : List Jvm.Cond) (a1 : Addr) (a : Addr) (k : ClassId) (arr : List Int64) (D : Int64 → Prop) (mm : Int64 → Int64) (h0 : Heap) (n0 : Nat) (Z0 : n0 ≤ h0.size) (E : Exa Z h0 a1 "com/example/pricewright/pricewright/core/LongSumTable") (FS : Fld Z h0 a1 "com/example/pricewright/pricewright/core/LongSumTable" "slots" "[J" (.ref a)) (FH : Fld Z h0 a1 "com/example/pricewright/pricewright/core/LongSumTable" "shift" "I" (.int (62 : Int32))) (FZ : Fld Z h0 a1 "com/example/pricewright/pricewright/core/LongSumTable" "size" "I" (.int (1 : Int32))) (FQ : Fld Z h0 a1 "com/example/pricewright/pricewright/core/LongSumTable" "sorted" "[J" .null) (AV : Arv Z h0 a k .long (8 : Int32) (arr.map Value.long) (.long (0 : Int64))) (hne : a1 ≠ a) (ga1 : n0 ≤ a1) (Rp : own_Rep (own_K arr) (own_W arr) 4 (own_hs 4) D mm 1) :
    MetFree l (⟨"com/example/pricewright/pricewright/core/LongSumTable", "sortedKeys", "()[J"⟩ : MethodName) (head1 (Jvm.Cond.code (⟨"com/example/pricewright/pricewright/core/LongSumTable", "sortedKeys", "()[J"⟩ : MethodName) prog_19_method_5_code 3 (some (.array .long)) :: ws) ({ frames := 4, cells := 1, slots := 1, locals := 84 } : Room)) (fun a U => a = #[(.ref a1)] ∧ Z.Warmed39 U.vm ∧ U.heap = h0) (fun _ _ _ _ _ => True) (fun _ U o U' => ∃ v L, o = .returned v ∧ QrmK4_1 Z a1 a k arr D mm h0 n0 v U'.heap L ∧ FrameEnd U o U' L ({ frames := 4, cells := 1, slots := 1, locals := 84 } : Room).cells ({ frames := 4, cells := 1, slots := 1, locals := 84 } : Room).slots) := by
  refine MetFree.of_bodySF (plainFor_of_name pn_10) hisR ?_
  intro p e s m args below meth c s₁ Bd hml0 hP hK
  obtain ⟨rfl, hZ, hh⟩ := hP
  have hx := Bd.exec
  have hby := Bd.bytes
  have hml : c.maxLocals = 3 := hml0
  have hown : s.vm.findClass "com/example/pricewright/pricewright/core/LongSumTable" = some m.cls := findClass_of_methodNamed Bd.named
  have hnm := (name_of_methodNamed Bd.named Bd.method).1
  have X0 : Stand p l e ({ frames := 4, cells := 1, slots := 1, locals := 84 } : Room) s m #[(.ref a1)] below meth c s₁ [] 0 0 := Stand.of_body Bd
  have e0 : s₁.heap = h0 := by rw [← hh, Bd.state]; rfl
  have N0 := Fr.nil n0
  have pre0 : ∀ t, Steps p.tables e below (s₁.setTop (mkF m 0 #[.val (.ref a1), .unset, .unset] [])) t → Steps p.tables e below (s₁.setTop (entryFrame m #[(.ref a1)] 3)) t := fun t k => castTop (ef_rmK4_1 m a1) k
  obtain ⟨T1, X1, e1, st1⟩ := getF X0 hx hZ hown (host := "") (Or.inl (hw _ (own_w 45 rfl))) Via.refl e0 FQ (g := (mkF m 1 #[.val (.ref a1), .unset, .unset] [(.ref a1)])) rfl rfl (hb hby d10_1)
  obtain ⟨T2, X2, e2, st2⟩ := getF X1 hx hZ hown (host := "") (Or.inl (hw _ (own_w 47 rfl))) Via.refl e1 FZ (g := (mkF m 9 #[.val (.ref a1), .unset, .unset] [(.ref a1), (.ref a1)])) rfl rfl (hb hby d10_9)
  obtain ⟨T3, h3, ck3, X3, e3, E3, A3, st3⟩ := newP X2 hx hZ (hw _ (own_w 17 rfl)) e2 (g := (mkF m 12 #[.val (.ref a1), .unset, .unset] [(.int (1 : Int32)), (.ref a1)])) rfl (hb hby d10_12) rfl (by decide) (cap := 1) (by decide) (by decide) (by decide) (by decide)
  obtain ⟨b3o, g3⟩ : ∃ z, z = h0.size := ⟨_, rfl⟩
  have b3 : n0 ≤ b3o := Nat.le_trans Z0 (Nat.le_of_eq g3.symm)
  have bk3 : h0.size ≤ b3o := Nat.le_trans (Keep.refl h0 [a1]).1 (Nat.le_of_eq g3.symm)
  have ne4 : a1 ≠ b3o := Nat.ne_of_lt (Nat.lt_of_lt_of_le E.lt (Nat.le_of_eq g3.symm))
  have ne5 : a ≠ b3o := Nat.ne_of_lt (Nat.lt_of_lt_of_le AV.lt (Nat.le_of_eq g3.symm))
  rw [← g3] at A3 st3
  have Z3 : n0 ≤ h3.size := Nat.le_trans Z0 E3.1
  have K3 : Keep h0 h3 [a1] := (Keep.refl h0 [a1]).ext E3
  have V3 : Arv Z h3 b3o ck3 .long (1 : Int32) [(.long (0 : Int64))] (.long (0 : Int64)) := (Arv.new A3 (by decide)).pad (pad_rep [] (.long (0 : Int64)) 1)
  have f6 := (E.ext E3)
  have f7 := (FQ.ext E3)
  obtain ⟨T8, h8, X8, e8, W8, st8⟩ := putF X3 hx hZ hown (host := "") (Or.inl (hw _ (own_w 45 rfl))) Via.refl e3 f7 f6 (Or.inl (hw _ (own_w 46 rfl))) (hw _ (own_w 6 rfl)) (ty := (.array .long)) (by decide) rfl rfl (g := (mkF m 14 #[.val (.ref a1), .unset, .unset] [(.ref b3o), (.ref a1)])) rfl rfl (hb hby d10_14)
  have N8 := Fr.snoc X8 N0 ga1
  have Z8 : n0 ≤ h8.size := by rw [W8.size]; exact Z3
  have K8 : Keep h0 h8 [a1] := K3.wr W8 (Or.inl (own_w 0 rfl))
  have Fw8 := f7.same W8
  have f10 := (V3.other W8 (Ne.symm ne4))
  have VP9 : Arv Z h8 b3o ck3 .long (Int32.ofNat 1) ((own_pad (own_K arr) 0 1).map Value.long) (.long (0 : Int64)) := f10
  have f11 := ((FS.ext E3).other W8 (Or.inr (slot_ne (Or.inl (hw _ (own_w 19 rfl))) (Or.inl (hw _ (own_w 46 rfl))) (by decide) (t := (.array .long)) (t' := (.array .long)) (by decide) (by decide))))
  have f12 := ((AV.ext E3).other W8 (Ne.symm hne))
  obtain ⟨T9, h9, L9, X9, e9, N9, Z9, KT9, AV9, st9⟩ := own_sk (n := 4) (z := 1) hx hZ hw hby hml hown (Or.inl rfl) (by decide) Rp ne5 ne4 b3 4 0 rfl _ _ _ X8 e8 N8 Z8 f11 Fw8 f12 VP9
  have K9 : Keep h0 h9 [a1] := K8.trans KT9 (allS (Or.inr bk3) all0)
  have dk := own_dom_ks Rp
  have pf := own_pad_full Rp.2.2.2
  obtain ⟨x13_0, hx13⟩ := own_l1 dk.2.2
  have VX13 := AV9
  rw [pf, hx13] at VX13
  have f14 := (Fw8.keep KT9 (ninS ne4 nin0))
  obtain ⟨T15, X15, e15, st15⟩ := getF X9 hx hZ hown (host := "") (Or.inl (hw _ (own_w 45 rfl))) Via.refl e9 f14 (g := (mkF m 65 #[.val (.ref a1), .val (.int (Int32.ofNat (own_cnt (own_K arr) 4))), .val (.int (own_p 4))] [(.ref a1)])) rfl rfl (hb hby d10_65)
  obtain ⟨_, _, ⟨T16, Lq16, kq16, nq16⟩, -, X16, ⟨Lc16, hQ16, lq16, yq16, zq16⟩, st16⟩ := Jvm.LawKit.callS X15 hx (y := (⟨"java/util/Arrays", "sort", "([J)V"⟩ : MethodName)) hown (mvT hZ (hw _ (own_w 54 rfl))) (mvT hZ (hw _ (own_w 55 rfl))) (mvT hZ (hw _ (own_w 56 rfl))) (mvT hZ (hw _ (own_w 57 rfl))) (by decide) (backOf (W := 0) (rma1 l Z a0 hw [] b3o ck3 x13_0 h9 n0 Z9 VX13 b3) hZ (hw _ (own_w 57 rfl)) (hw _ (own_w 56 rfl)) (by decide) (by decide)) (g := (mkF m 68 #[.val (.ref a1), .val (.int (Int32.ofNat (own_cnt (own_K arr) 4))), .val (.int (own_p 4))] [(.ref b3o)])) rfl (by rw [hml]; rfl) (argsL := [(.ref b3o)]) (rest := []) (lenOf pd_9 rfl) rfl (by show 2 * 0 + _ ≤ _; exact Nat.le_of_eq rfl) (hb hby d10_68) (fun _ _ => ⟨rfl, e15, (by decide : 1 + 0 ≤ _), (by decide : 1 + 0 ≤ _)⟩)
  dsimp only [Pt.U, Pt.locs, Pt.cells, Pt.slots] at X16 lq16 yq16 zq16 st16 hQ16
  subst lq16 yq16 zq16
  obtain ⟨rfl, N16q, KC16, u16⟩ := hQ16
  have N16 := Fr.app N9 N16q
  have Z16 : n0 ≤ T16.heap.size := Nat.le_trans Z9 KC16.1
  have K16 : Keep h0 T16.heap [a1] := K9.trans KC16 (allS (Or.inr bk3) all0)
  obtain ⟨y16_0, AV16, so16, pm16⟩ := id u16
  have f17 := (f14.keep KC16 (ninS ne4 nin0))
  obtain ⟨T18, X18, e18, st18⟩ := getF X16 hx hZ hown (host := "") (Or.inl (hw _ (own_w 45 rfl))) Via.refl rfl f17 (g := (mkF m 72 #[.val (.ref a1), .val (.int (Int32.ofNat (own_cnt (own_K arr) 4))), .val (.int (own_p 4))] [(.ref a1)])) rfl rfl (hb hby d10_72)
  obtain ⟨fs, hr, hrun, hended, hW, hsame⟩ := X18.leave (v := some (.ref b3o)) (fun h => by rw [Bd.returns] at h; cases h) (BodyLoose.notSynchronized Bd)
  refine ⟨_, _, pre0 _ ?_, hrun, hended, _, _, rfl, ?_, ⟨_, rfl⟩, hW, hsame.mono (by decide) (by decide)⟩
  · show Steps p.tables e below (s₁.setTop (mkF m 0 #[.val (.ref a1), .unset, .unset] [])) _
    refine XS.aloadN X0.here hx rfl (hb hby d10_0) rfl rfl ?_
    refine st1 _ ?_
    refine XS.ifnonnullNo X1.here hx rfl (hb hby d10_4) rfl ?_
    refine XS.aloadN X1.here hx rfl (hb hby d10_7) rfl rfl ?_
    refine XS.aloadN X1.here hx rfl (hb hby d10_8) rfl rfl ?_
    refine st2 _ ?_
    refine st3 _ ?_
    refine st8 _ ?_
    refine XS.iconst X8.here hx rfl (hb hby d10_17) ?_
    refine XS.istoreN X8.here hx rfl (hb hby d10_18) rfl (l' := #[.val (.ref a1), .val (.int (0 : Int32)), .unset]) rfl ?_
    refine XS.iconst X8.here hx rfl (hb hby d10_19) ?_
    refine XS.istoreN X8.here hx rfl (hb hby d10_20) rfl (l' := #[.val (.ref a1), .val (.int (0 : Int32)), .val (.int (0 : Int32))]) rfl ?_
    refine st9 _ ?_
    refine XS.aloadN X9.here hx rfl (hb hby d10_64) rfl rfl ?_
    refine st15 _ ?_
    refine st16 _ ?_
    refine XS.aloadN X16.here hx rfl (hb hby d10_71) rfl rfl ?_
    refine st18 _ ?_
    show Steps p.tables e below (T18.setTop (mkF m 75 #[.val (.ref a1), .val (.int (Int32.ofNat (own_cnt (own_K arr) 4))), .val (.int (own_p 4))] [(.ref b3o)])) _
    exact X18.areturnOut hx rfl Bd.returns rfl (hb hby d10_75) hr
  · show QrmK4_1 Z a1 a k arr D mm h0 n0 _ T18.heap _
    have f19 := (((f6.wr W8).keep KT9).keep KC16)
    have f20 := ((f11.keep KT9 (ninS ne4 nin0)).keep KC16 (ninS ne4 nin0))
    have f21 := ((((FH.ext E3).other W8 (Or.inr (slot_ne (Or.inl (hw _ (own_w 31 rfl))) (Or.inl (hw _ (own_w 46 rfl))) (by decide) (t := .int) (t' := (.array .long)) (by decide) (by decide)))).keep KT9 (ninS ne4 nin0)).keep KC16 (ninS ne4 nin0))
    have f22 := ((((FZ.ext E3).other W8 (Or.inr (slot_ne (Or.inl (hw _ (own_w 48 rfl))) (Or.inl (hw _ (own_w 46 rfl))) (by decide) (t := .int) (t' := (.array .long)) (by decide) (by decide)))).keep KT9 (ninS ne4 nin0)).keep KC16 (ninS ne4 nin0))
    rw [e18]
    have nd := dk.2.1
    have dm := dk.1
    rw [hx13] at nd dm
    simp only [List.nodup_cons, List.mem_cons, List.not_mem_nil, or_false, not_or, not_false_eq_true, List.nodup_nil, and_true] at nd
    simp only [List.mem_cons, List.not_mem_nil, or_false] at dm
    refine ⟨b3o, _, y16_0, rfl, N16, K16, b3, bk3, f19, f20, f21, f22, f17, AV16, trivial, fun x => by rw [pm16]; exact dm x⟩
theorem ef_rmK4_2 (m : MethodId) (a1 : Addr) : entryFrame m #[(.ref a1)] 3 = mkF m 0 #[.val (.ref a1), .unset, .unset] [] := by first | (simp [entryFrame, mkF, argsToLocals, Value.category]; done) | rfl
def QrmK4_2 (Z : State) (a1 : Addr) (a : Addr) (k : ClassId) (arr : List Int64) (D : Int64 → Prop) (mm : Int64 → Int64) (h0 : Heap) (n0 : Nat) (v : Option Value) (h : Heap) (L : List Loc) : Prop := ∃ (sa : Addr) (sk : ClassId) (y0 y1 : Int64), v = some (.ref sa) ∧ Fr n0 L ∧ Keep h0 h [a1] ∧ n0 ≤ sa ∧ h0.size ≤ sa ∧ Exa Z h a1 "com/example/pricewright/pricewright/core/LongSumTable" ∧ Fld Z h a1 "com/example/pricewright/pricewright/core/LongSumTable" "slots" "[J" (.ref a) ∧ Fld Z h a1 "com/example/pricewright/pricewright/core/LongSumTable" "shift" "I" (.int (62 : Int32)) ∧ Fld Z h a1 "com/example/pricewright/pricewright/core/LongSumTable" "size" "I" (.int (2 : Int32)) ∧ Fld Z h a1 "com/example/pricewright/pricewright/core/LongSumTable" "sorted" "[J" (.ref sa) ∧ Arv Z h sa sk .long (2 : Int32) [.long y0, .long y1] (.long (0 : Int64)) ∧ (y0 < y1) ∧ ∀ x, D x ↔ (x = y0 ∨ x = y1)
set_option maxRecDepth 65536 in
set_option maxHeartbeats 40000000 in
theorem rmK4_2 (l : Launch) (Z : State) (a0 : Array Value) (hw : ∀ d ∈ tables_1, d.before a0 Z = true) (ws : List Jvm.Cond) (a1 : Addr) (a : Addr) (k : ClassId) (arr : List Int64) (D : Int64 → Prop) (mm : Int64 → Int64) (h0 : Heap) (n0 : Nat) (Z0 : n0 ≤ h0.size) (E : Exa Z h0 a1 "com/example/pricewright/pricewright/core/LongSumTable") (FS : Fld Z h0 a1 "com/example/pricewright/pricewright/core/LongSumTable" "slots" "[J" (.ref a)) (FH : Fld Z h0 a1 "com/example/pricewright/pricewright/core/LongSumTable" "shift" "I" (.int (62 : Int32))) (FZ : Fld Z h0 a1 "com/example/pricewright/pricewright/core/LongSumTable" "size" "I" (.int (2 : Int32))) (FQ : Fld Z h0 a1 "com/example/pricewright/pricewright/core/LongSumTable" "sorted" "[J" .null) (AV : Arv Z h0 a k .long (8 : Int32) (arr.map Value.long) (.long (0 : Int64))) (hne : a1 ≠ a) (ga1 : n0 ≤ a1) (Rp : own_Rep (own_K arr) (own_W arr) 4 (own_hs 4) D mm 2) :
    MetFree l (⟨"com/example/pricewright/pricewright/core/LongSumTable", "sortedKeys", "()[J"⟩ : MethodName) (head1 (Jvm.Cond.code (⟨"com/example/pricewright/pricewright/core/LongSumTable", "sortedKeys", "()[J"⟩ : MethodName) prog_19_method_5_code 3 (some (.array .long)) :: ws) ({ frames := 4, cells := 1, slots := 2, locals := 84 } : Room)) (fun a U => a = #[(.ref a1)] ∧ Z.Warmed39 U.vm ∧ U.heap = h0) (fun _ _ _ _ _ => True) (fun _ U o U' => ∃ v L, o = .returned v ∧ QrmK4_2 Z a1 a k arr D mm h0 n0 v U'.heap L ∧ FrameEnd U o U' L ({ frames := 4, cells := 1, slots := 2, locals := 84 } : Room).cells ({ frames := 4, cells := 1, slots := 2, locals := 84 } : Room).slots) := by
  refine MetFree.of_bodySF (plainFor_of_name pn_10) hisR ?_
  intro p e s m args below meth c s₁ Bd hml0 hP hK
  obtain ⟨rfl, hZ, hh⟩ := hP
  have hx := Bd.exec
  have hby := Bd.bytes
  have hml : c.maxLocals = 3 := hml0
  have hown : s.vm.findClass "com/example/pricewright/pricewright/core/LongSumTable" = some m.cls := findClass_of_methodNamed Bd.named
  have hnm := (name_of_methodNamed Bd.named Bd.method).1
  have X0 : Stand p l e ({ frames := 4, cells := 1, slots := 2, locals := 84 } : Room) s m #[(.ref a1)] below meth c s₁ [] 0 0 := Stand.of_body Bd
  have e0 : s₁.heap = h0 := by rw [← hh, Bd.state]; rfl
  have N0 := Fr.nil n0
  have pre0 : ∀ t, Steps p.tables e below (s₁.setTop (mkF m 0 #[.val (.ref a1), .unset, .unset] [])) t → Steps p.tables e below (s₁.setTop (entryFrame m #[(.ref a1)] 3)) t := fun t k => castTop (ef_rmK4_2 m a1) k
  obtain ⟨T1, X1, e1, st1⟩ := getF X0 hx hZ hown (host := "") (Or.inl (hw _ (own_w 45 rfl))) Via.refl e0 FQ (g := (mkF m 1 #[.val (.ref a1), .unset, .unset] [(.ref a1)])) rfl rfl (hb hby d10_1)
  obtain ⟨T2, X2, e2, st2⟩ := getF X1 hx hZ hown (host := "") (Or.inl (hw _ (own_w 47 rfl))) Via.refl e1 FZ (g := (mkF m 9 #[.val (.ref a1), .unset, .unset] [(.ref a1), (.ref a1)])) rfl rfl (hb hby d10_9)
  obtain ⟨T3, h3, ck3, X3, e3, E3, A3, st3⟩ := newP X2 hx hZ (hw _ (own_w 17 rfl)) e2 (g := (mkF m 12 #[.val (.ref a1), .unset, .unset] [(.int (2 : Int32)), (.ref a1)])) rfl (hb hby d10_12) rfl (by decide) (cap := 2) (by decide) (by decide) (by decide) (by decide)
  obtain ⟨b3o, g3⟩ : ∃ z, z = h0.size := ⟨_, rfl⟩
  have b3 : n0 ≤ b3o := Nat.le_trans Z0 (Nat.le_of_eq g3.symm)
  have bk3 : h0.size ≤ b3o := Nat.le_trans (Keep.refl h0 [a1]).1 (Nat.le_of_eq g3.symm)
  have ne4 : a1 ≠ b3o := Nat.ne_of_lt (Nat.lt_of_lt_of_le E.lt (Nat.le_of_eq g3.symm))
  have ne5 : a ≠ b3o := Nat.ne_of_lt (Nat.lt_of_lt_of_le AV.lt (Nat.le_of_eq g3.symm))
  rw [← g3] at A3 st3
  have Z3 : n0 ≤ h3.size := Nat.le_trans Z0 E3.1
  have K3 : Keep h0 h3 [a1] := (Keep.refl h0 [a1]).ext E3
  have V3 : Arv Z h3 b3o ck3 .long (2 : Int32) [(.long (0 : Int64)), (.long (0 : Int64))] (.long (0 : Int64)) := (Arv.new A3 (by decide)).pad (pad_rep [] (.long (0 : Int64)) 2)
  have f6 := (E.ext E3)
  have f7 := (FQ.ext E3)
  obtain ⟨T8, h8, X8, e8, W8, st8⟩ := putF X3 hx hZ hown (host := "") (Or.inl (hw _ (own_w 45 rfl))) Via.refl e3 f7 f6 (Or.inl (hw _ (own_w 46 rfl))) (hw _ (own_w 6 rfl)) (ty := (.array .long)) (by decide) rfl rfl (g := (mkF m 14 #[.val (.ref a1), .unset, .unset] [(.ref b3o), (.ref a1)])) rfl rfl (hb hby d10_14)
  have N8 := Fr.snoc X8 N0 ga1
  have Z8 : n0 ≤ h8.size := by rw [W8.size]; exact Z3
  have K8 : Keep h0 h8 [a1] := K3.wr W8 (Or.inl (own_w 0 rfl))
  have Fw8 := f7.same W8
  have f10 := (V3.other W8 (Ne.symm ne4))
  have VP9 : Arv Z h8 b3o ck3 .long (Int32.ofNat 2) ((own_pad (own_K arr) 0 2).map Value.long) (.long (0 : Int64)) := f10
  have f11 := ((FS.ext E3).other W8 (Or.inr (slot_ne (Or.inl (hw _ (own_w 19 rfl))) (Or.inl (hw _ (own_w 46 rfl))) (by decide) (t := (.array .long)) (t' := (.array .long)) (by decide) (by decide))))
  have f12 := ((AV.ext E3).other W8 (Ne.symm hne))
  obtain ⟨T9, h9, L9, X9, e9, N9, Z9, KT9, AV9, st9⟩ := own_sk (n := 4) (z := 2) hx hZ hw hby hml hown (Or.inl rfl) (by decide) Rp ne5 ne4 b3 4 0 rfl _ _ _ X8 e8 N8 Z8 f11 Fw8 f12 VP9
  have K9 : Keep h0 h9 [a1] := K8.trans KT9 (allS (Or.inr bk3) all0)
  have dk := own_dom_ks Rp
  have pf := own_pad_full Rp.2.2.2
  obtain ⟨x13_0, x13_1, hx13⟩ := own_l2 dk.2.2
  have VX13 := AV9
  rw [pf, hx13] at VX13
  have f14 := (Fw8.keep KT9 (ninS ne4 nin0))
  obtain ⟨T15, X15, e15, st15⟩ := getF X9 hx hZ hown (host := "") (Or.inl (hw _ (own_w 45 rfl))) Via.refl e9 f14 (g := (mkF m 65 #[.val (.ref a1), .val (.int (Int32.ofNat (own_cnt (own_K arr) 4))), .val (.int (own_p 4))] [(.ref a1)])) rfl rfl (hb hby d10_65)
  obtain ⟨_, _, ⟨T16, Lq16, kq16, nq16⟩, -, X16, ⟨Lc16, hQ16, lq16, yq16, zq16⟩, st16⟩ := Jvm.LawKit.callS X15 hx (y := (⟨"java/util/Arrays", "sort", "([J)V"⟩ : MethodName)) hown (mvT hZ (hw _ (own_w 54 rfl))) (mvT hZ (hw _ (own_w 55 rfl))) (mvT hZ (hw _ (own_w 56 rfl))) (mvT hZ (hw _ (own_w 57 rfl))) (by decide) (backOf (W := 0) (rma2 l Z a0 hw [] b3o ck3 x13_0 x13_1 h9 n0 Z9 VX13 b3) hZ (hw _ (own_w 57 rfl)) (hw _ (own_w 56 rfl)) (by decide) (by decide)) (g := (mkF m 68 #[.val (.ref a1), .val (.int (Int32.ofNat (own_cnt (own_K arr) 4))), .val (.int (own_p 4))] [(.ref b3o)])) rfl (by rw [hml]; rfl) (argsL := [(.ref b3o)]) (rest := []) (lenOf pd_9 rfl) rfl (by show 2 * 0 + _ ≤ _; exact Nat.le_of_eq rfl) (hb hby d10_68) (fun _ _ => ⟨rfl, e15, (by decide : 1 + 0 ≤ _), (by decide : 2 + 0 ≤ _)⟩)
  dsimp only [Pt.U, Pt.locs, Pt.cells, Pt.slots] at X16 lq16 yq16 zq16 st16 hQ16
  subst lq16 yq16 zq16
  obtain ⟨rfl, N16q, KC16, u16⟩ := hQ16
  have N16 := Fr.app N9 N16q
  have Z16 : n0 ≤ T16.heap.size := Nat.le_trans Z9 KC16.1
  have K16 : Keep h0 T16.heap [a1] := K9.trans KC16 (allS (Or.inr bk3) all0)
  obtain ⟨y16_0, y16_1, AV16, so16, pm16⟩ := id u16
  have f17 := (f14.keep KC16 (ninS ne4 nin0))
  obtain ⟨T18, X18, e18, st18⟩ := getF X16 hx hZ hown (host := "") (Or.inl (hw _ (own_w 45 rfl))) Via.refl rfl f17 (g := (mkF m 72 #[.val (.ref a1), .val (.int (Int32.ofNat (own_cnt (own_K arr) 4))), .val (.int (own_p 4))] [(.ref a1)])) rfl rfl (hb hby d10_72)
  obtain ⟨fs, hr, hrun, hended, hW, hsame⟩ := X18.leave (v := some (.ref b3o)) (fun h => by rw [Bd.returns] at h; cases h) (BodyLoose.notSynchronized Bd)
  refine ⟨_, _, pre0 _ ?_, hrun, hended, _, _, rfl, ?_, ⟨_, rfl⟩, hW, hsame.mono (by decide) (by decide)⟩
  · show Steps p.tables e below (s₁.setTop (mkF m 0 #[.val (.ref a1), .unset, .unset] [])) _
    refine XS.aloadN X0.here hx rfl (hb hby d10_0) rfl rfl ?_
    refine st1 _ ?_
    refine XS.ifnonnullNo X1.here hx rfl (hb hby d10_4) rfl ?_
    refine XS.aloadN X1.here hx rfl (hb hby d10_7) rfl rfl ?_
    refine XS.aloadN X1.here hx rfl (hb hby d10_8) rfl rfl ?_
    refine st2 _ ?_
    refine st3 _ ?_
    refine st8 _ ?_
    refine XS.iconst X8.here hx rfl (hb hby d10_17) ?_
    refine XS.istoreN X8.here hx rfl (hb hby d10_18) rfl (l' := #[.val (.ref a1), .val (.int (0 : Int32)), .unset]) rfl ?_
    refine XS.iconst X8.here hx rfl (hb hby d10_19) ?_
    refine XS.istoreN X8.here hx rfl (hb hby d10_20) rfl (l' := #[.val (.ref a1), .val (.int (0 : Int32)), .val (.int (0 : Int32))]) rfl ?_
    refine st9 _ ?_
    refine XS.aloadN X9.here hx rfl (hb hby d10_64) rfl rfl ?_
    refine st15 _ ?_
    refine st16 _ ?_
    refine XS.aloadN X16.here hx rfl (hb hby d10_71) rfl rfl ?_
    refine st18 _ ?_
    show Steps p.tables e below (T18.setTop (mkF m 75 #[.val (.ref a1), .val (.int (Int32.ofNat (own_cnt (own_K arr) 4))), .val (.int (own_p 4))] [(.ref b3o)])) _
    exact X18.areturnOut hx rfl Bd.returns rfl (hb hby d10_75) hr
  · show QrmK4_2 Z a1 a k arr D mm h0 n0 _ T18.heap _
    have f19 := (((f6.wr W8).keep KT9).keep KC16)
    have f20 := ((f11.keep KT9 (ninS ne4 nin0)).keep KC16 (ninS ne4 nin0))
    have f21 := ((((FH.ext E3).other W8 (Or.inr (slot_ne (Or.inl (hw _ (own_w 31 rfl))) (Or.inl (hw _ (own_w 46 rfl))) (by decide) (t := .int) (t' := (.array .long)) (by decide) (by decide)))).keep KT9 (ninS ne4 nin0)).keep KC16 (ninS ne4 nin0))
    have f22 := ((((FZ.ext E3).other W8 (Or.inr (slot_ne (Or.inl (hw _ (own_w 48 rfl))) (Or.inl (hw _ (own_w 46 rfl))) (by decide) (t := .int) (t' := (.array .long)) (by decide) (by decide)))).keep KT9 (ninS ne4 nin0)).keep KC16 (ninS ne4 nin0))
    rw [e18]
    have nd := dk.2.1
    have dm := dk.1
    rw [hx13] at nd dm
    simp only [List.nodup_cons, List.mem_cons, List.not_mem_nil, or_false, not_or, not_false_eq_true, List.nodup_nil, and_true] at nd
    simp only [List.mem_cons, List.not_mem_nil, or_false] at dm
    refine ⟨b3o, _, y16_0, y16_1, rfl, N16, K16, b3, bk3, f19, f20, f21, f22, f17, AV16, ?_, ?_⟩
    · refine own_str so16 ?_
      rcases pm16 with ⟨q0, q1⟩ | ⟨q0, q1⟩ <;> rw [q0, q1]
      · exact nd
      · exact fun w => nd w.symm
    · intro x
      rw [dm x]
      rcases pm16 with ⟨q0, q1⟩ | ⟨q0, q1⟩ <;> rw [q0, q1]
      exact or_comm
theorem ef_rmK8_3 (m : MethodId) (a1 : Addr) : entryFrame m #[(.ref a1)] 3 = mkF m 0 #[.val (.ref a1), .unset, .unset] [] := by first | (simp [entryFrame, mkF, argsToLocals, Value.category]; done) | rfl
def QrmK8_3 (Z : State) (a1 : Addr) (a : Addr) (k : ClassId) (arr : List Int64) (D : Int64 → Prop) (mm : Int64 → Int64) (h0 : Heap) (n0 : Nat) (v : Option Value) (h : Heap) (L : List Loc) : Prop := ∃ (sa : Addr) (sk : ClassId) (y0 y1 y2 : Int64), v = some (.ref sa) ∧ Fr n0 L ∧ Keep h0 h [a1] ∧ n0 ≤ sa ∧ h0.size ≤ sa ∧ Exa Z h a1 "com/example/pricewright/pricewright/core/LongSumTable" ∧ Fld Z h a1 "com/example/pricewright/pricewright/core/LongSumTable" "slots" "[J" (.ref a) ∧ Fld Z h a1 "com/example/pricewright/pricewright/core/LongSumTable" "shift" "I" (.int (61 : Int32)) ∧ Fld Z h a1 "com/example/pricewright/pricewright/core/LongSumTable" "size" "I" (.int (3 : Int32)) ∧ Fld Z h a1 "com/example/pricewright/pricewright/core/LongSumTable" "sorted" "[J" (.ref sa) ∧ Arv Z h sa sk .long (3 : Int32) [.long y0, .long y1, .long y2] (.long (0 : Int64)) ∧ (y0 < y1 ∧ y1 < y2) ∧ ∀ x, D x ↔ (x = y0 ∨ x = y1 ∨ x = y2)
set_option maxRecDepth 65536 in
set_option maxHeartbeats 40000000 in
theorem rmK8_3 (l : Launch) (Z : State) (a0 : Array Value) (hw : ∀ d ∈ tables_1, d.before a0 Z = true) (ws : List Jvm.Cond) (a1 : Addr) (a : Addr) (k : ClassId) (arr : List Int64) (D : Int64 → Prop) (mm : Int64 → Int64) (h0 : Heap) (n0 : Nat) (Z0 : n0 ≤ h0.size) (E : Exa Z h0 a1 "com/example/pricewright/pricewright/core/LongSumTable") (FS : Fld Z h0 a1 "com/example/pricewright/pricewright/core/LongSumTable" "slots" "[J" (.ref a)) (FH : Fld Z h0 a1 "com/example/pricewright/pricewright/core/LongSumTable" "shift" "I" (.int (61 : Int32))) (FZ : Fld Z h0 a1 "com/example/pricewright/pricewright/core/LongSumTable" "size" "I" (.int (3 : Int32))) (FQ : Fld Z h0 a1 "com/example/pricewright/pricewright/core/LongSumTable" "sorted" "[J" .null) (AV : Arv Z h0 a k .long (16 : Int32) (arr.map Value.long) (.long (0 : Int64))) (hne : a1 ≠ a) (ga1 : n0 ≤ a1) (Rp : own_Rep (own_K arr) (own_W arr) 8 (own_hs 8) D mm 3) :
    MetFree l (⟨"com/example/pricewright/pricewright/core/LongSumTable", "sortedKeys", "()[J"⟩ : MethodName) (head1 (Jvm.Cond.code (⟨"com/example/pricewright/pricewright/core/LongSumTable", "sortedKeys", "()[J"⟩ : MethodName) prog_19_method_5_code 3 (some (.array .long)) :: ws) ({ frames := 4, cells := 1, slots := 3, locals := 84 } : Room)) (fun a U => a = #[(.ref a1)] ∧ Z.Warmed39 U.vm ∧ U.heap = h0) (fun _ _ _ _ _ => True) (fun _ U o U' => ∃ v L, o = .returned v ∧ QrmK8_3 Z a1 a k arr D mm h0 n0 v U'.heap L ∧ FrameEnd U o U' L ({ frames := 4, cells := 1, slots := 3, locals := 84 } : Room).cells ({ frames := 4, cells := 1, slots := 3, locals := 84 } : Room).slots) := by
  refine MetFree.of_bodySF (plainFor_of_name pn_10) hisR ?_
  intro p e s m args below meth c s₁ Bd hml0 hP hK
  obtain ⟨rfl, hZ, hh⟩ := hP
  have hx := Bd.exec
  have hby := Bd.bytes
  have hml : c.maxLocals = 3 := hml0
  have hown : s.vm.findClass "com/example/pricewright/pricewright/core/LongSumTable" = some m.cls := findClass_of_methodNamed Bd.named
  have hnm := (name_of_methodNamed Bd.named Bd.method).1
  have X0 : Stand p l e ({ frames := 4, cells := 1, slots := 3, locals := 84 } : Room) s m #[(.ref a1)] below meth c s₁ [] 0 0 := Stand.of_body Bd
  have e0 : s₁.heap = h0 := by rw [← hh, Bd.state]; rfl
  have N0 := Fr.nil n0
  have pre0 : ∀ t, Steps p.tables e below (s₁.setTop (mkF m 0 #[.val (.ref a1), .unset, .unset] [])) t → Steps p.tables e below (s₁.setTop (entryFrame m #[(.ref a1)] 3)) t := fun t k => castTop (ef_rmK8_3 m a1) k
  obtain ⟨T1, X1, e1, st1⟩ := getF X0 hx hZ hown (host := "") (Or.inl (hw _ (own_w 45 rfl))) Via.refl e0 FQ (g := (mkF m 1 #[.val (.ref a1), .unset, .unset] [(.ref a1)])) rfl rfl (hb hby d10_1)
  obtain ⟨T2, X2, e2, st2⟩ := getF X1 hx hZ hown (host := "") (Or.inl (hw _ (own_w 47 rfl))) Via.refl e1 FZ (g := (mkF m 9 #[.val (.ref a1), .unset, .unset] [(.ref a1), (.ref a1)])) rfl rfl (hb hby d10_9)
  obtain ⟨T3, h3, ck3, X3, e3, E3, A3, st3⟩ := newP X2 hx hZ (hw _ (own_w 17 rfl)) e2 (g := (mkF m 12 #[.val (.ref a1), .unset, .unset] [(.int (3 : Int32)), (.ref a1)])) rfl (hb hby d10_12) rfl (by decide) (cap := 3) (by decide) (by decide) (by decide) (by decide)
  obtain ⟨b3o, g3⟩ : ∃ z, z = h0.size := ⟨_, rfl⟩
  have b3 : n0 ≤ b3o := Nat.le_trans Z0 (Nat.le_of_eq g3.symm)
  have bk3 : h0.size ≤ b3o := Nat.le_trans (Keep.refl h0 [a1]).1 (Nat.le_of_eq g3.symm)
  have ne4 : a1 ≠ b3o := Nat.ne_of_lt (Nat.lt_of_lt_of_le E.lt (Nat.le_of_eq g3.symm))
  have ne5 : a ≠ b3o := Nat.ne_of_lt (Nat.lt_of_lt_of_le AV.lt (Nat.le_of_eq g3.symm))
  rw [← g3] at A3 st3
  have Z3 : n0 ≤ h3.size := Nat.le_trans Z0 E3.1
  have K3 : Keep h0 h3 [a1] := (Keep.refl h0 [a1]).ext E3
  have V3 : Arv Z h3 b3o ck3 .long (3 : Int32) [(.long (0 : Int64)), (.long (0 : Int64)), (.long (0 : Int64))] (.long (0 : Int64)) := (Arv.new A3 (by decide)).pad (pad_rep [] (.long (0 : Int64)) 3)
  have f6 := (E.ext E3)
  have f7 := (FQ.ext E3)
  obtain ⟨T8, h8, X8, e8, W8, st8⟩ := putF X3 hx hZ hown (host := "") (Or.inl (hw _ (own_w 45 rfl))) Via.refl e3 f7 f6 (Or.inl (hw _ (own_w 46 rfl))) (hw _ (own_w 6 rfl)) (ty := (.array .long)) (by decide) rfl rfl (g := (mkF m 14 #[.val (.ref a1), .unset, .unset] [(.ref b3o), (.ref a1)])) rfl rfl (hb hby d10_14)
  have N8 := Fr.snoc X8 N0 ga1
  have Z8 : n0 ≤ h8.size := by rw [W8.size]; exact Z3
  have K8 : Keep h0 h8 [a1] := K3.wr W8 (Or.inl (own_w 0 rfl))
  have Fw8 := f7.same W8
  have f10 := (V3.other W8 (Ne.symm ne4))
  have VP9 : Arv Z h8 b3o ck3 .long (Int32.ofNat 3) ((own_pad (own_K arr) 0 3).map Value.long) (.long (0 : Int64)) := f10
  have f11 := ((FS.ext E3).other W8 (Or.inr (slot_ne (Or.inl (hw _ (own_w 19 rfl))) (Or.inl (hw _ (own_w 46 rfl))) (by decide) (t := (.array .long)) (t' := (.array .long)) (by decide) (by decide))))
  have f12 := ((AV.ext E3).other W8 (Ne.symm hne))
  obtain ⟨T9, h9, L9, X9, e9, N9, Z9, KT9, AV9, st9⟩ := own_sk (n := 8) (z := 3) hx hZ hw hby hml hown (Or.inr rfl) (by decide) Rp ne5 ne4 b3 8 0 rfl _ _ _ X8 e8 N8 Z8 f11 Fw8 f12 VP9
  have K9 : Keep h0 h9 [a1] := K8.trans KT9 (allS (Or.inr bk3) all0)
  have dk := own_dom_ks Rp
  have pf := own_pad_full Rp.2.2.2
  obtain ⟨x13_0, x13_1, x13_2, hx13⟩ := own_l3 dk.2.2
  have VX13 := AV9
  rw [pf, hx13] at VX13
  have f14 := (Fw8.keep KT9 (ninS ne4 nin0))
  obtain ⟨T15, X15, e15, st15⟩ := getF X9 hx hZ hown (host := "") (Or.inl (hw _ (own_w 45 rfl))) Via.refl e9 f14 (g := (mkF m 65 #[.val (.ref a1), .val (.int (Int32.ofNat (own_cnt (own_K arr) 8))), .val (.int (own_p 8))] [(.ref a1)])) rfl rfl (hb hby d10_65)
  obtain ⟨_, _, ⟨T16, Lq16, kq16, nq16⟩, -, X16, ⟨Lc16, hQ16, lq16, yq16, zq16⟩, st16⟩ := Jvm.LawKit.callS X15 hx (y := (⟨"java/util/Arrays", "sort", "([J)V"⟩ : MethodName)) hown (mvT hZ (hw _ (own_w 54 rfl))) (mvT hZ (hw _ (own_w 55 rfl))) (mvT hZ (hw _ (own_w 56 rfl))) (mvT hZ (hw _ (own_w 57 rfl))) (by decide) (backOf (W := 0) (rma3 l Z a0 hw [] b3o ck3 x13_0 x13_1 x13_2 h9 n0 Z9 VX13 b3) hZ (hw _ (own_w 57 rfl)) (hw _ (own_w 56 rfl)) (by decide) (by decide)) (g := (mkF m 68 #[.val (.ref a1), .val (.int (Int32.ofNat (own_cnt (own_K arr) 8))), .val (.int (own_p 8))] [(.ref b3o)])) rfl (by rw [hml]; rfl) (argsL := [(.ref b3o)]) (rest := []) (lenOf pd_9 rfl) rfl (by show 2 * 0 + _ ≤ _; exact Nat.le_of_eq rfl) (hb hby d10_68) (fun _ _ => ⟨rfl, e15, (by decide : 1 + 0 ≤ _), (by decide : 3 + 0 ≤ _)⟩)
  dsimp only [Pt.U, Pt.locs, Pt.cells, Pt.slots] at X16 lq16 yq16 zq16 st16 hQ16
  subst lq16 yq16 zq16
  obtain ⟨rfl, N16q, KC16, u16⟩ := hQ16
  have N16 := Fr.app N9 N16q
  have Z16 : n0 ≤ T16.heap.size := Nat.le_trans Z9 KC16.1
  have K16 : Keep h0 T16.heap [a1] := K9.trans KC16 (allS (Or.inr bk3) all0)
  obtain ⟨y16_0, y16_1, y16_2, AV16, so16, pm16⟩ := id u16
  have f17 := (f14.keep KC16 (ninS ne4 nin0))
  obtain ⟨T18, X18, e18, st18⟩ := getF X16 hx hZ hown (host := "") (Or.inl (hw _ (own_w 45 rfl))) Via.refl rfl f17 (g := (mkF m 72 #[.val (.ref a1), .val (.int (Int32.ofNat (own_cnt (own_K arr) 8))), .val (.int (own_p 8))] [(.ref a1)])) rfl rfl (hb hby d10_72)
  obtain ⟨fs, hr, hrun, hended, hW, hsame⟩ := X18.leave (v := some (.ref b3o)) (fun h => by rw [Bd.returns] at h; cases h) (BodyLoose.notSynchronized Bd)
  refine ⟨_, _, pre0 _ ?_, hrun, hended, _, _, rfl, ?_, ⟨_, rfl⟩, hW, hsame.mono (by decide) (by decide)⟩
  · show Steps p.tables e below (s₁.setTop (mkF m 0 #[.val (.ref a1), .unset, .unset] [])) _
    refine XS.aloadN X0.here hx rfl (hb hby d10_0) rfl rfl ?_
    refine st1 _ ?_
    refine XS.ifnonnullNo X1.here hx rfl (hb hby d10_4) rfl ?_
    refine XS.aloadN X1.here hx rfl (hb hby d10_7) rfl rfl ?_
    refine XS.aloadN X1.here hx rfl (hb hby d10_8) rfl rfl ?_
    refine st2 _ ?_
    refine st3 _ ?_
    refine st8 _ ?_
    refine XS.iconst X8.here hx rfl (hb hby d10_17) ?_
    refine XS.istoreN X8.here hx rfl (hb hby d10_18) rfl (l' := #[.val (.ref a1), .val (.int (0 : Int32)), .unset]) rfl ?_
    refine XS.iconst X8.here hx rfl (hb hby d10_19) ?_
    refine XS.istoreN X8.here hx rfl (hb hby d10_20) rfl (l' := #[.val (.ref a1), .val (.int (0 : Int32)), .val (.int (0 : Int32))]) rfl ?_
    refine st9 _ ?_
    refine XS.aloadN X9.here hx rfl (hb hby d10_64) rfl rfl ?_
    refine st15 _ ?_
    refine st16 _ ?_
    refine XS.aloadN X16.here hx rfl (hb hby d10_71) rfl rfl ?_
    refine st18 _ ?_
    show Steps p.tables e below (T18.setTop (mkF m 75 #[.val (.ref a1), .val (.int (Int32.ofNat (own_cnt (own_K arr) 8))), .val (.int (own_p 8))] [(.ref b3o)])) _
    exact X18.areturnOut hx rfl Bd.returns rfl (hb hby d10_75) hr
  · show QrmK8_3 Z a1 a k arr D mm h0 n0 _ T18.heap _
    have f19 := (((f6.wr W8).keep KT9).keep KC16)
    have f20 := ((f11.keep KT9 (ninS ne4 nin0)).keep KC16 (ninS ne4 nin0))
    have f21 := ((((FH.ext E3).other W8 (Or.inr (slot_ne (Or.inl (hw _ (own_w 31 rfl))) (Or.inl (hw _ (own_w 46 rfl))) (by decide) (t := .int) (t' := (.array .long)) (by decide) (by decide)))).keep KT9 (ninS ne4 nin0)).keep KC16 (ninS ne4 nin0))
    have f22 := ((((FZ.ext E3).other W8 (Or.inr (slot_ne (Or.inl (hw _ (own_w 48 rfl))) (Or.inl (hw _ (own_w 46 rfl))) (by decide) (t := .int) (t' := (.array .long)) (by decide) (by decide)))).keep KT9 (ninS ne4 nin0)).keep KC16 (ninS ne4 nin0))
    rw [e18]
    have nd := dk.2.1
    have dm := dk.1
    rw [hx13] at nd dm
    simp only [List.nodup_cons, List.mem_cons, List.not_mem_nil, or_false, not_or, not_false_eq_true, List.nodup_nil, and_true] at nd
    simp only [List.mem_cons, List.not_mem_nil, or_false] at dm
    refine ⟨b3o, _, y16_0, y16_1, y16_2, rfl, N16, K16, b3, bk3, f19, f20, f21, f22, f17, AV16, ?_, ?_⟩
    · have hne : ¬ y16_0 = y16_1 ∧ ¬ y16_1 = y16_2 := by
        obtain ⟨⟨n1, n2⟩, n3⟩ := nd
        rcases pm16 with ⟨q0, q1, q2⟩ | ⟨q0, q1, q2⟩ | ⟨q0, q1, q2⟩ | ⟨q0, q1, q2⟩ | ⟨q0, q1, q2⟩ | ⟨q0, q1, q2⟩ <;> rw [q0, q1, q2] <;> refine ⟨fun w => ?_, fun w => ?_⟩ <;> first | exact n1 w | exact n2 w | exact n3 w | exact n1 w.symm | exact n2 w.symm | exact n3 w.symm
      exact ⟨own_str so16.1 hne.1, own_str so16.2 hne.2⟩
    · intro x
      rw [dm x]
      rcases pm16 with ⟨q0, q1, q2⟩ | ⟨q0, q1, q2⟩ | ⟨q0, q1, q2⟩ | ⟨q0, q1, q2⟩ | ⟨q0, q1, q2⟩ | ⟨q0, q1, q2⟩ <;> rw [q0, q1, q2] <;> constructor <;> (intro w; rcases w with w | w | w <;> simp [w])
theorem ef_rmKc (m : MethodId) (a1 : Addr) : entryFrame m #[(.ref a1)] 3 = mkF m 0 #[.val (.ref a1), .unset, .unset] [] := by first | (simp [entryFrame, mkF, argsToLocals, Value.category]; done) | rfl
def QrmKc (Z : State) (a1 : Addr) (sa : Addr) (h0 : Heap) (n0 : Nat) (v : Option Value) (h : Heap) (L : List Loc) : Prop := v = some (.ref sa) ∧ Fr n0 L ∧ h = h0
set_option maxRecDepth 65536 in
set_option maxHeartbeats 40000000 in
theorem rmKc (l : Launch) (Z : State) (a0 : Array Value) (hw : ∀ d ∈ tables_1, d.before a0 Z = true) (ws : List Jvm.Cond) (a1 : Addr) (sa : Addr) (h0 : Heap) (n0 : Nat) (Z0 : n0 ≤ h0.size) (FQ : Fld Z h0 a1 "com/example/pricewright/pricewright/core/LongSumTable" "sorted" "[J" (.ref sa)) :
    MetFree l (⟨"com/example/pricewright/pricewright/core/LongSumTable", "sortedKeys", "()[J"⟩ : MethodName) (head1 (Jvm.Cond.code (⟨"com/example/pricewright/pricewright/core/LongSumTable", "sortedKeys", "()[J"⟩ : MethodName) prog_19_method_5_code 3 (some (.array .long)) :: ws) ({ frames := 0, cells := 0, slots := 0, locals := 0 } : Room)) (fun a U => a = #[(.ref a1)] ∧ Z.Warmed39 U.vm ∧ U.heap = h0) (fun _ _ _ _ _ => True) (fun _ U o U' => ∃ v L, o = .returned v ∧ QrmKc Z a1 sa h0 n0 v U'.heap L ∧ FrameEnd U o U' L ({ frames := 0, cells := 0, slots := 0, locals := 0 } : Room).cells ({ frames := 0, cells := 0, slots := 0, locals := 0 } : Room).slots) := by
  refine MetFree.of_bodySF (plainFor_of_name pn_10) hisR ?_
  intro p e s m args below meth c s₁ Bd hml0 hP hK
  obtain ⟨rfl, hZ, hh⟩ := hP
  have hx := Bd.exec
  have hby := Bd.bytes
  have hml : c.maxLocals = 3 := hml0
  have hown : s.vm.findClass "com/example/pricewright/pricewright/core/LongSumTable" = some m.cls := findClass_of_methodNamed Bd.named
  have hnm := (name_of_methodNamed Bd.named Bd.method).1
  have X0 : Stand p l e ({ frames := 0, cells := 0, slots := 0, locals := 0 } : Room) s m #[(.ref a1)] below meth c s₁ [] 0 0 := Stand.of_body Bd
  have e0 : s₁.heap = h0 := by rw [← hh, Bd.state]; rfl
  have N0 := Fr.nil n0
  have pre0 : ∀ t, Steps p.tables e below (s₁.setTop (mkF m 0 #[.val (.ref a1), .unset, .unset] [])) t → Steps p.tables e below (s₁.setTop (entryFrame m #[(.ref a1)] 3)) t := fun t k => castTop (ef_rmKc m a1) k
  obtain ⟨T1, X1, e1, st1⟩ := getF X0 hx hZ hown (host := "") (Or.inl (hw _ (own_w 45 rfl))) Via.refl e0 FQ (g := (mkF m 1 #[.val (.ref a1), .unset, .unset] [(.ref a1)])) rfl rfl (hb hby d10_1)
  obtain ⟨T2, X2, e2, st2⟩ := getF X1 hx hZ hown (host := "") (Or.inl (hw _ (own_w 45 rfl))) Via.refl e1 FQ (g := (mkF m 72 #[.val (.ref a1), .unset, .unset] [(.ref a1)])) rfl rfl (hb hby d10_72)
  obtain ⟨fs, hr, hrun, hended, hW, hsame⟩ := X2.leave (v := some (.ref sa)) (fun h => by rw [Bd.returns] at h; cases h) (BodyLoose.notSynchronized Bd)
  refine ⟨_, _, pre0 _ ?_, hrun, hended, _, _, rfl, ?_, ⟨_, rfl⟩, hW, hsame.mono (by decide) (by decide)⟩
  · show Steps p.tables e below (s₁.setTop (mkF m 0 #[.val (.ref a1), .unset, .unset] [])) _
    refine XS.aloadN X0.here hx rfl (hb hby d10_0) rfl rfl ?_
    refine st1 _ ?_
    refine XS.ifnonnullYes X1.here hx rfl (pc0 := 4) (pc' := 71) rfl (hb hby d10_4) rfl (by decide) (by decide) ?_
    refine XS.aloadN X1.here hx rfl (hb hby d10_71) rfl rfl ?_
    refine st2 _ ?_
    show Steps p.tables e below (T2.setTop (mkF m 75 #[.val (.ref a1), .unset, .unset] [(.ref sa)])) _
    exact X2.areturnOut hx rfl Bd.returns rfl (hb hby d10_75) hr
  · show QrmKc Z a1 sa h0 n0 _ T2.heap _
    exact ⟨rfl, N0, e2⟩
def own_fits (s v : Int64) : Int32 := if (0 : Int64) < v then (if ((9223372036854775807 : Int64) - v) < s then 0 else 1) else (if s < ((-9223372036854775808 : Int64) - v) then 0 else 1)
def own_part (d : Int32) (k x v : Int64) : Int64 := if d = (0 : Int32) then 0 else if k = x then v else 0
def own_mem (x a : Int64) (d2 : Int32) (b : Int64) (d3 : Int32) (c : Int64) : Int32 := if x = a ∨ (¬ d2 = (0 : Int32) ∧ x = b) ∨ (¬ d3 = (0 : Int32) ∧ x = c) then 1 else 0
def own_exp (x a v1 : Int64) (d2 : Int32) (b v2 : Int64) (d3 : Int32) (c v3 : Int64) : Int64 := (own_part 1 a x v1 + own_part d2 b x v2) + own_part d3 c x v3
theorem own_fix {r q : Int64} (h : r = (if q = (-9223372036854775808 : Int64) then (9223372036854775807 : Int64) else q)) : ¬ r = (-9223372036854775808 : Int64) := by
  rw [h]; split
  · decide
  · assumption
theorem own_fits_ok {s v : Int64} (h : ¬ own_fits s v = (0 : Int32)) : -9223372036854775808 ≤ s.toInt + v.toInt ∧ s.toInt + v.toInt < 9223372036854775808 := by
  unfold own_fits at h
  have a1 := s.toInt_lt; have a2 := s.le_toInt; have b1 := v.toInt_lt; have b2 := v.le_toInt
  have e1 : (9223372036854775807 : Int64).toInt = 9223372036854775807 := rfl
  have e2 : (-9223372036854775808 : Int64).toInt = -9223372036854775808 := rfl
  have e0 : (0 : Int64).toInt = 0 := rfl
  have c1 := c_lsub (9223372036854775807 : Int64) v; have c2 := c_lsub (-9223372036854775808 : Int64) v
  have d1 := ((9223372036854775807 : Int64) - v).toInt_lt; have d2 := ((9223372036854775807 : Int64) - v).le_toInt
  have f1 := ((-9223372036854775808 : Int64) - v).toInt_lt; have f2 := ((-9223372036854775808 : Int64) - v).le_toInt
  simp only [Int64.lt_iff_toInt_lt] at h
  rw [e1] at c1; rw [e2] at c2; rw [e0] at h
  by_cases p : 0 < v.toInt
  · rw [if_pos p] at h
    by_cases q : ((9223372036854775807 : Int64) - v).toInt < s.toInt
    · rw [if_pos q] at h; exact absurd rfl h
    · omega
  · rw [if_neg p] at h
    by_cases q : s.toInt < ((-9223372036854775808 : Int64) - v).toInt
    · rw [if_pos q] at h; exact absurd rfl h
    · omega
theorem own_pY {s : Int64} {d : Int32} {k v x : Int64} {A A' : Int64 → Int64} (h : ¬ d = 0) (hM : ∀ x, A' x = if x = k then A k + v else A x) (hs : s = A x) : s + own_part d k x v = A' x := by
  unfold own_part; rw [if_neg h, hM]
  by_cases q : x = k
  · subst q; rw [if_pos rfl, if_pos rfl, hs]
  · rw [if_neg q, if_neg (fun z => q z.symm), Int64.add_zero]; exact hs
theorem own_pZ {s : Int64} {d : Int32} {k v x : Int64} {A : Int64 → Int64} (h : d = 0) (hs : s = A x) : s + own_part d k x v = A x := by
  unfold own_part; rw [if_pos h, Int64.add_zero]; exact hs
theorem own_p1 {k v x : Int64} {A' : Int64 → Int64} (hM : ∀ x, A' x = if x = k then (fun _ => (0 : Int64)) k + v else (fun _ => (0 : Int64)) x) : own_part 1 k x v = A' x := by
  unfold own_part; rw [if_neg (by decide), hM]
  by_cases q : x = k
  · subst q; rw [if_pos rfl, if_pos rfl]; exact (Int64.zero_add v).symm
  · rw [if_neg q, if_neg (fun z => q z.symm)]
theorem own_mem1 {x a b c : Int64} {d2 d3 : Int32} (h : x = a ∨ (¬ d2 = (0 : Int32) ∧ x = b) ∨ (¬ d3 = (0 : Int32) ∧ x = c)) : ¬ own_mem x a d2 b d3 c = 0 := by unfold own_mem; rw [if_pos h]; decide
theorem own_sh61 {sh : Int32} (h : (8 = 4 ∧ sh = 62) ∨ (8 = 8 ∧ sh = 61)) : sh = 61 := by
  rcases h with ⟨h, -⟩ | ⟨-, h⟩
  · omega
  · exact h

theorem d1_0 : decode method_2_code 0 = .ok (.lload_n 0, 1) := by decide +kernel
theorem d1_1 : decode method_2_code 1 = .ok (.ldc2_w 9, 3) := by decide +kernel
theorem d1_4 : decode method_2_code 4 = .ok (.lcmp, 1) := by decide +kernel
theorem d1_5 : decode method_2_code 5 = .ok (.ifCond .ne 9, 3) := by decide +kernel
theorem d1_8 : decode method_2_code 8 = .ok (.ldc2_w 11, 3) := by decide +kernel
theorem d1_11 : decode method_2_code 11 = .ok (.goto 4, 3) := by decide +kernel
theorem d1_14 : decode method_2_code 14 = .ok (.lload_n 0, 1) := by decide +kernel
theorem d1_15 : decode method_2_code 15 = .ok (.lreturn, 1) := by decide +kernel
theorem pn_1 : plainName "com/example/pricewright/pricewright/core/LongSumTableAddPinLaw" = true := by first | (simp [plainName, overriddenIn]; done) | decide +kernel
theorem ef_rmf (m : MethodId) (q1 : Int64) : entryFrame m #[(.long q1)] 2 = mkF m 0 #[.val (.long q1), .second] [] := by first | (simp [entryFrame, mkF, argsToLocals, Value.category]; done) | rfl
def Qrmf (Z : State) (q1 : Int64) (h0 : Heap) (n0 : Nat) (v : Option Value) (h : Heap) (L : List Loc) : Prop := ∃ z : Int64, z = (if q1 = (-9223372036854775808 : Int64) then (9223372036854775807 : Int64) else q1) ∧ v = some (.long z) ∧ Fr n0 L ∧ h = h0
set_option maxRecDepth 65536 in
set_option maxHeartbeats 40000000 in
theorem rmf (l : Launch) (Z : State) (a0 : Array Value) (hw : ∀ d ∈ tables_1, d.before a0 Z = true) (ws : List Jvm.Cond) (q1 : Int64) (h0 : Heap) (n0 : Nat) (Z0 : n0 ≤ h0.size) :
    MetFree l (⟨"com/example/pricewright/pricewright/core/LongSumTableAddPinLaw", "fix", "(J)J"⟩ : MethodName) (head1 (Jvm.Cond.code (⟨"com/example/pricewright/pricewright/core/LongSumTableAddPinLaw", "fix", "(J)J"⟩ : MethodName) method_2_code 2 (some .long) :: ws) ({ frames := 0, cells := 0, slots := 0, locals := 0 } : Room)) (fun a U => a = #[(.long q1)] ∧ Z.Warmed39 U.vm ∧ U.heap = h0) (fun _ _ _ _ _ => True) (fun _ U o U' => ∃ v L, o = .returned v ∧ Qrmf Z q1 h0 n0 v U'.heap L ∧ FrameEnd U o U' L ({ frames := 0, cells := 0, slots := 0, locals := 0 } : Room).cells ({ frames := 0, cells := 0, slots := 0, locals := 0 } : Room).slots) := by
  refine MetFree.of_bodySF (plainFor_of_name pn_1) hisR ?_
  intro p e s m args below meth c s₁ Bd hml0 hP hK
  obtain ⟨rfl, hZ, hh⟩ := hP
  have hx := Bd.exec
  have hby := Bd.bytes
  have hml : c.maxLocals = 2 := hml0
  have hown : s.vm.findClass "com/example/pricewright/pricewright/core/LongSumTableAddPinLaw" = some m.cls := findClass_of_methodNamed Bd.named
  have hnm := (name_of_methodNamed Bd.named Bd.method).1
  have X0 : Stand p l e ({ frames := 0, cells := 0, slots := 0, locals := 0 } : Room) s m #[(.long q1)] below meth c s₁ [] 0 0 := Stand.of_body Bd
  have e0 : s₁.heap = h0 := by rw [← hh, Bd.state]; rfl
  have N0 := Fr.nil n0
  have pre0 : ∀ t, Steps p.tables e below (s₁.setTop (mkF m 0 #[.val (.long q1), .second] [])) t → Steps p.tables e below (s₁.setTop (entryFrame m #[(.long q1)] 2)) t := fun t k => castTop (ef_rmf m q1) k
  by_cases hc5 : q1 = (-9223372036854775808 : Int64)
  · obtain ⟨fs, hr, hrun, hended, hW, hsame⟩ := X0.leave (v := some (.long (9223372036854775807 : Int64))) (fun h => by rw [Bd.returns] at h; cases h) (BodyLoose.notSynchronized Bd)
    refine ⟨_, _, pre0 _ ?_, hrun, hended, _, _, rfl, ?_, ⟨_, rfl⟩, hW, hsame.mono (by decide) (by decide)⟩
    · show Steps p.tables e below (s₁.setTop (mkF m 0 #[.val (.long q1), .second] [])) _
      refine XS.lloadN X0.here hx rfl (hb hby d1_0) rfl ?_
      refine X0.ldc2Long hx hown (mvT hZ (hw _ (own_w 4 rfl))) (g := (mkF m 1 #[.val (.long q1), .second] [(.long q1)])) rfl (hb hby d1_1) _ ?_
      refine XS.lcmp X0.here hx rfl (hb hby d1_4) rfl ?_
      refine XS.ifNo X0.here hx rfl (hb hby d1_5) rfl ((if0 _ _).trans (teq (own_lceq hc5)).2) ?_
      refine X0.ldc2Long hx hown (mvT hZ (hw _ (own_w 71 rfl))) (g := (mkF m 8 #[.val (.long q1), .second] [])) rfl (hb hby d1_8) _ ?_
      refine XS.goto X0.here hx rfl (pc0 := 11) (pc' := 15) rfl (hb hby d1_11) (by decide) (by decide) ?_
      show Steps p.tables e below (s₁.setTop (mkF m 15 #[.val (.long q1), .second] [(.long (9223372036854775807 : Int64))])) _
      exact X0.lreturnOut hx Bd.returns (hb hby d1_15) hr
    · show Qrmf Z q1 h0 n0 _ s₁.heap _
      exact ⟨_, by simp [own_fits, own_part, own_mem, *], rfl, N0, e0⟩
  · obtain ⟨fs, hr, hrun, hended, hW, hsame⟩ := X0.leave (v := some (.long q1)) (fun h => by rw [Bd.returns] at h; cases h) (BodyLoose.notSynchronized Bd)
    refine ⟨_, _, pre0 _ ?_, hrun, hended, _, _, rfl, ?_, ⟨_, rfl⟩, hW, hsame.mono (by decide) (by decide)⟩
    · show Steps p.tables e below (s₁.setTop (mkF m 0 #[.val (.long q1), .second] [])) _
      refine XS.lloadN X0.here hx rfl (hb hby d1_0) rfl ?_
      refine X0.ldc2Long hx hown (mvT hZ (hw _ (own_w 4 rfl))) (g := (mkF m 1 #[.val (.long q1), .second] [(.long q1)])) rfl (hb hby d1_1) _ ?_
      refine XS.lcmp X0.here hx rfl (hb hby d1_4) rfl ?_
      refine XS.ifYes X0.here hx rfl (pc0 := 5) (pc' := 14) rfl (hb hby d1_5) rfl ((if0 _ _).trans (feq (own_lcne hc5)).2) (by decide) (by decide) ?_
      refine XS.lloadN X0.here hx rfl (hb hby d1_14) rfl ?_
      show Steps p.tables e below (s₁.setTop (mkF m 15 #[.val (.long q1), .second] [(.long q1)])) _
      exact X0.lreturnOut hx Bd.returns (hb hby d1_15) hr
    · show Qrmf Z q1 h0 n0 _ s₁.heap _
      exact ⟨_, by simp [own_fits, own_part, own_mem, *], rfl, N0, e0⟩
theorem d15_0 : decode method_3_code 0 = .ok (.lload_n 2, 1) := by decide +kernel
theorem d15_1 : decode method_3_code 1 = .ok (.lconst 0, 1) := by decide +kernel
theorem d15_2 : decode method_3_code 2 = .ok (.lcmp, 1) := by decide +kernel
theorem d15_3 : decode method_3_code 3 = .ok (.ifCond .le 19, 3) := by decide +kernel
theorem d15_6 : decode method_3_code 6 = .ok (.lload_n 0, 1) := by decide +kernel
theorem d15_7 : decode method_3_code 7 = .ok (.ldc2_w 11, 3) := by decide +kernel
theorem d15_10 : decode method_3_code 10 = .ok (.lload_n 2, 1) := by decide +kernel
theorem d15_11 : decode method_3_code 11 = .ok (.lsub, 1) := by decide +kernel
theorem d15_12 : decode method_3_code 12 = .ok (.lcmp, 1) := by decide +kernel
theorem d15_13 : decode method_3_code 13 = .ok (.ifCond .gt 7, 3) := by decide +kernel
theorem d15_16 : decode method_3_code 16 = .ok (.iconst 1, 1) := by decide +kernel
theorem d15_17 : decode method_3_code 17 = .ok (.goto 4, 3) := by decide +kernel
theorem d15_20 : decode method_3_code 20 = .ok (.iconst 0, 1) := by decide +kernel
theorem d15_21 : decode method_3_code 21 = .ok (.ireturn, 1) := by decide +kernel
theorem d15_22 : decode method_3_code 22 = .ok (.lload_n 0, 1) := by decide +kernel
theorem d15_23 : decode method_3_code 23 = .ok (.ldc2_w 9, 3) := by decide +kernel
theorem d15_26 : decode method_3_code 26 = .ok (.lload_n 2, 1) := by decide +kernel
theorem d15_27 : decode method_3_code 27 = .ok (.lsub, 1) := by decide +kernel
theorem d15_28 : decode method_3_code 28 = .ok (.lcmp, 1) := by decide +kernel
theorem d15_29 : decode method_3_code 29 = .ok (.ifCond .lt 7, 3) := by decide +kernel
theorem d15_32 : decode method_3_code 32 = .ok (.iconst 1, 1) := by decide +kernel
theorem d15_33 : decode method_3_code 33 = .ok (.goto 4, 3) := by decide +kernel
theorem d15_36 : decode method_3_code 36 = .ok (.iconst 0, 1) := by decide +kernel
theorem d15_37 : decode method_3_code 37 = .ok (.ireturn, 1) := by decide +kernel
theorem pn_15 : plainName "com/example/pricewright/pricewright/core/LongSumTableAddPinLaw" = true := by first | (simp [plainName, overriddenIn]; done) | decide +kernel
theorem ef_rmt (m : MethodId) (q1 : Int64) (q2 : Int64) : entryFrame m #[(.long q1), (.long q2)] 4 = mkF m 0 #[.val (.long q1), .second, .val (.long q2), .second] [] := by first | (simp [entryFrame, mkF, argsToLocals, Value.category]; done) | rfl
def Qrmt (Z : State) (q1 : Int64) (q2 : Int64) (h0 : Heap) (n0 : Nat) (v : Option Value) (h : Heap) (L : List Loc) : Prop := ∃ z : Int32, z = (own_fits q1 q2) ∧ v = some (.int z) ∧ Fr n0 L ∧ h = h0
set_option maxRecDepth 65536 in
set_option maxHeartbeats 40000000 in
theorem rmt (l : Launch) (Z : State) (a0 : Array Value) (hw : ∀ d ∈ tables_1, d.before a0 Z = true) (ws : List Jvm.Cond) (q1 : Int64) (q2 : Int64) (h0 : Heap) (n0 : Nat) (Z0 : n0 ≤ h0.size) :
    MetFree l (⟨"com/example/pricewright/pricewright/core/LongSumTableAddPinLaw", "fits", "(JJ)Z"⟩ : MethodName) (head1 (Jvm.Cond.code (⟨"com/example/pricewright/pricewright/core/LongSumTableAddPinLaw", "fits", "(JJ)Z"⟩ : MethodName) method_3_code 4 (some .boolean) :: ws) ({ frames := 0, cells := 0, slots := 0, locals := 0 } : Room)) (fun a U => a = #[(.long q1), (.long q2)] ∧ Z.Warmed39 U.vm ∧ U.heap = h0) (fun _ _ _ _ _ => True) (fun _ U o U' => ∃ v L, o = .returned v ∧ Qrmt Z q1 q2 h0 n0 v U'.heap L ∧ FrameEnd U o U' L ({ frames := 0, cells := 0, slots := 0, locals := 0 } : Room).cells ({ frames := 0, cells := 0, slots := 0, locals := 0 } : Room).slots) := by
  refine MetFree.of_bodySF (plainFor_of_name pn_15) hisR ?_
  intro p e s m args below meth c s₁ Bd hml0 hP hK
  obtain ⟨rfl, hZ, hh⟩ := hP
  have hx := Bd.exec
  have hby := Bd.bytes
  have hml : c.maxLocals = 4 := hml0
  have hown : s.vm.findClass "com/example/pricewright/pricewright/core/LongSumTableAddPinLaw" = some m.cls := findClass_of_methodNamed Bd.named
  have hnm := (name_of_methodNamed Bd.named Bd.method).1
  have X0 : Stand p l e ({ frames := 0, cells := 0, slots := 0, locals := 0 } : Room) s m #[(.long q1), (.long q2)] below meth c s₁ [] 0 0 := Stand.of_body Bd
  have e0 : s₁.heap = h0 := by rw [← hh, Bd.state]; rfl
  have N0 := Fr.nil n0
  have pre0 : ∀ t, Steps p.tables e below (s₁.setTop (mkF m 0 #[.val (.long q1), .second, .val (.long q2), .second] [])) t → Steps p.tables e below (s₁.setTop (entryFrame m #[(.long q1), (.long q2)] 4)) t := fun t k => castTop (ef_rmt m q1 q2) k
  by_cases hc3 : (0 : Int64) < q2
  · by_cases hc13 : ((9223372036854775807 : Int64) - q2) < q1
    · obtain ⟨fs, hr, hrun, hended, hW, hsame⟩ := X0.leave (v := some (.int (0 : Int32))) (fun h => by rw [Bd.returns] at h; cases h) (BodyLoose.notSynchronized Bd)
      refine ⟨_, _, pre0 _ ?_, hrun, hended, _, _, rfl, ?_, ⟨_, rfl⟩, hW, hsame.mono (by decide) (by decide)⟩
      · show Steps p.tables e below (s₁.setTop (mkF m 0 #[.val (.long q1), .second, .val (.long q2), .second] [])) _
        refine XS.lloadN X0.here hx rfl (hb hby d15_0) rfl ?_
        refine XS.lconst X0.here hx rfl (hb hby d15_1) ?_
        refine XS.lcmp X0.here hx rfl (hb hby d15_2) rfl ?_
        refine XS.ifNo X0.here hx rfl (hb hby d15_3) rfl ((if0 _ _).trans (tlt (own_lcgt hc3)).2.2.2) ?_
        refine XS.lloadN X0.here hx rfl (hb hby d15_6) rfl ?_
        refine X0.ldc2Long hx hown (mvT hZ (hw _ (own_w 71 rfl))) (g := (mkF m 7 #[.val (.long q1), .second, .val (.long q2), .second] [(.long q1)])) rfl (hb hby d15_7) _ ?_
        refine XS.lloadN X0.here hx rfl (hb hby d15_10) rfl ?_
        refine XS.lsub X0.here hx rfl (hb hby d15_11) rfl ?_
        refine XS.lcmp X0.here hx rfl (hb hby d15_12) rfl ?_
        refine XS.ifYes X0.here hx rfl (pc0 := 13) (pc' := 20) rfl (hb hby d15_13) rfl ((if0 _ _).trans (tlt (own_lcgt hc13)).2.2.1) (by decide) (by decide) ?_
        refine XS.iconst X0.here hx rfl (hb hby d15_20) ?_
        show Steps p.tables e below (s₁.setTop (mkF m 21 #[.val (.long q1), .second, .val (.long q2), .second] [(.int (0 : Int32))])) _
        exact retN X0 hx (t := .boolean) Bd.returns (by simp) (hb hby d15_21) hr
      · show Qrmt Z q1 q2 h0 n0 _ s₁.heap _
        exact ⟨_, by simp [own_fits, own_part, own_mem, *], rfl, N0, e0⟩
    · obtain ⟨fs, hr, hrun, hended, hW, hsame⟩ := X0.leave (v := some (.int (1 : Int32))) (fun h => by rw [Bd.returns] at h; cases h) (BodyLoose.notSynchronized Bd)
      refine ⟨_, _, pre0 _ ?_, hrun, hended, _, _, rfl, ?_, ⟨_, rfl⟩, hW, hsame.mono (by decide) (by decide)⟩
      · show Steps p.tables e below (s₁.setTop (mkF m 0 #[.val (.long q1), .second, .val (.long q2), .second] [])) _
        refine XS.lloadN X0.here hx rfl (hb hby d15_0) rfl ?_
        refine XS.lconst X0.here hx rfl (hb hby d15_1) ?_
        refine XS.lcmp X0.here hx rfl (hb hby d15_2) rfl ?_
        refine XS.ifNo X0.here hx rfl (hb hby d15_3) rfl ((if0 _ _).trans (tlt (own_lcgt hc3)).2.2.2) ?_
        refine XS.lloadN X0.here hx rfl (hb hby d15_6) rfl ?_
        refine X0.ldc2Long hx hown (mvT hZ (hw _ (own_w 71 rfl))) (g := (mkF m 7 #[.val (.long q1), .second, .val (.long q2), .second] [(.long q1)])) rfl (hb hby d15_7) _ ?_
        refine XS.lloadN X0.here hx rfl (hb hby d15_10) rfl ?_
        refine XS.lsub X0.here hx rfl (hb hby d15_11) rfl ?_
        refine XS.lcmp X0.here hx rfl (hb hby d15_12) rfl ?_
        refine XS.ifNo X0.here hx rfl (hb hby d15_13) rfl ((if0 _ _).trans (flt (own_lcngt hc13)).2.2.1) ?_
        refine XS.iconst X0.here hx rfl (hb hby d15_16) ?_
        refine XS.goto X0.here hx rfl (pc0 := 17) (pc' := 21) rfl (hb hby d15_17) (by decide) (by decide) ?_
        show Steps p.tables e below (s₁.setTop (mkF m 21 #[.val (.long q1), .second, .val (.long q2), .second] [(.int (1 : Int32))])) _
        exact retN X0 hx (t := .boolean) Bd.returns (by simp) (hb hby d15_21) hr
      · show Qrmt Z q1 q2 h0 n0 _ s₁.heap _
        exact ⟨_, by simp [own_fits, own_part, own_mem, *], rfl, N0, e0⟩
  · by_cases hc29 : q1 < ((-9223372036854775808 : Int64) - q2)
    · obtain ⟨fs, hr, hrun, hended, hW, hsame⟩ := X0.leave (v := some (.int (0 : Int32))) (fun h => by rw [Bd.returns] at h; cases h) (BodyLoose.notSynchronized Bd)
      refine ⟨_, _, pre0 _ ?_, hrun, hended, _, _, rfl, ?_, ⟨_, rfl⟩, hW, hsame.mono (by decide) (by decide)⟩
      · show Steps p.tables e below (s₁.setTop (mkF m 0 #[.val (.long q1), .second, .val (.long q2), .second] [])) _
        refine XS.lloadN X0.here hx rfl (hb hby d15_0) rfl ?_
        refine XS.lconst X0.here hx rfl (hb hby d15_1) ?_
        refine XS.lcmp X0.here hx rfl (hb hby d15_2) rfl ?_
        refine XS.ifYes X0.here hx rfl (pc0 := 3) (pc' := 22) rfl (hb hby d15_3) rfl ((if0 _ _).trans (flt (own_lcngt hc3)).2.2.2) (by decide) (by decide) ?_
        refine XS.lloadN X0.here hx rfl (hb hby d15_22) rfl ?_
        refine X0.ldc2Long hx hown (mvT hZ (hw _ (own_w 4 rfl))) (g := (mkF m 23 #[.val (.long q1), .second, .val (.long q2), .second] [(.long q1)])) rfl (hb hby d15_23) _ ?_
        refine XS.lloadN X0.here hx rfl (hb hby d15_26) rfl ?_
        refine XS.lsub X0.here hx rfl (hb hby d15_27) rfl ?_
        refine XS.lcmp X0.here hx rfl (hb hby d15_28) rfl ?_
        refine XS.ifYes X0.here hx rfl (pc0 := 29) (pc' := 36) rfl (hb hby d15_29) rfl ((if0 _ _).trans (tlt (own_lclt hc29)).1) (by decide) (by decide) ?_
        refine XS.iconst X0.here hx rfl (hb hby d15_36) ?_
        show Steps p.tables e below (s₁.setTop (mkF m 37 #[.val (.long q1), .second, .val (.long q2), .second] [(.int (0 : Int32))])) _
        exact retN X0 hx (t := .boolean) Bd.returns (by simp) (hb hby d15_37) hr
      · show Qrmt Z q1 q2 h0 n0 _ s₁.heap _
        exact ⟨_, by simp [own_fits, own_part, own_mem, *], rfl, N0, e0⟩
    · obtain ⟨fs, hr, hrun, hended, hW, hsame⟩ := X0.leave (v := some (.int (1 : Int32))) (fun h => by rw [Bd.returns] at h; cases h) (BodyLoose.notSynchronized Bd)
      refine ⟨_, _, pre0 _ ?_, hrun, hended, _, _, rfl, ?_, ⟨_, rfl⟩, hW, hsame.mono (by decide) (by decide)⟩
      · show Steps p.tables e below (s₁.setTop (mkF m 0 #[.val (.long q1), .second, .val (.long q2), .second] [])) _
        refine XS.lloadN X0.here hx rfl (hb hby d15_0) rfl ?_
        refine XS.lconst X0.here hx rfl (hb hby d15_1) ?_
        refine XS.lcmp X0.here hx rfl (hb hby d15_2) rfl ?_
        refine XS.ifYes X0.here hx rfl (pc0 := 3) (pc' := 22) rfl (hb hby d15_3) rfl ((if0 _ _).trans (flt (own_lcngt hc3)).2.2.2) (by decide) (by decide) ?_
        refine XS.lloadN X0.here hx rfl (hb hby d15_22) rfl ?_
        refine X0.ldc2Long hx hown (mvT hZ (hw _ (own_w 4 rfl))) (g := (mkF m 23 #[.val (.long q1), .second, .val (.long q2), .second] [(.long q1)])) rfl (hb hby d15_23) _ ?_
        refine XS.lloadN X0.here hx rfl (hb hby d15_26) rfl ?_
        refine XS.lsub X0.here hx rfl (hb hby d15_27) rfl ?_
        refine XS.lcmp X0.here hx rfl (hb hby d15_28) rfl ?_
        refine XS.ifNo X0.here hx rfl (hb hby d15_29) rfl ((if0 _ _).trans (flt (own_lcnlt hc29)).1) ?_
        refine XS.iconst X0.here hx rfl (hb hby d15_32) ?_
        refine XS.goto X0.here hx rfl (pc0 := 33) (pc' := 37) rfl (hb hby d15_33) (by decide) (by decide) ?_
        show Steps p.tables e below (s₁.setTop (mkF m 37 #[.val (.long q1), .second, .val (.long q2), .second] [(.int (1 : Int32))])) _
        exact retN X0 hx (t := .boolean) Bd.returns (by simp) (hb hby d15_37) hr
      · show Qrmt Z q1 q2 h0 n0 _ s₁.heap _
        exact ⟨_, by simp [own_fits, own_part, own_mem, *], rfl, N0, e0⟩
theorem d20_0 : decode method_4_code 0 = .ok (.iload_n 0, 1) := by decide +kernel
theorem d20_1 : decode method_4_code 1 = .ok (.ifCond .eq 14, 3) := by decide +kernel
theorem d20_4 : decode method_4_code 4 = .ok (.lload_n 1, 1) := by decide +kernel
theorem d20_5 : decode method_4_code 5 = .ok (.lload_n 3, 1) := by decide +kernel
theorem d20_6 : decode method_4_code 6 = .ok (.lcmp, 1) := by decide +kernel
theorem d20_7 : decode method_4_code 7 = .ok (.ifCond .ne 8, 3) := by decide +kernel
theorem d20_10 : decode method_4_code 10 = .ok (.lload 5, 2) := by decide +kernel
theorem d20_12 : decode method_4_code 12 = .ok (.goto 4, 3) := by decide +kernel
theorem d20_15 : decode method_4_code 15 = .ok (.lconst 0, 1) := by decide +kernel
theorem d20_16 : decode method_4_code 16 = .ok (.lreturn, 1) := by decide +kernel
theorem pn_20 : plainName "com/example/pricewright/pricewright/core/LongSumTableAddPinLaw" = true := by first | (simp [plainName, overriddenIn]; done) | decide +kernel
theorem ef_rmp (m : MethodId) (p1 : Int32) (q2 : Int64) (q3 : Int64) (q4 : Int64) : entryFrame m #[(.int p1), (.long q2), (.long q3), (.long q4)] 7 = mkF m 0 #[.val (.int p1), .val (.long q2), .second, .val (.long q3), .second, .val (.long q4), .second] [] := by first | (simp [entryFrame, mkF, argsToLocals, Value.category]; done) | rfl
def Qrmp (Z : State) (p1 : Int32) (q2 : Int64) (q3 : Int64) (q4 : Int64) (h0 : Heap) (n0 : Nat) (v : Option Value) (h : Heap) (L : List Loc) : Prop := ∃ z : Int64, z = (own_part p1 q2 q3 q4) ∧ v = some (.long z) ∧ Fr n0 L ∧ h = h0
set_option maxRecDepth 65536 in
set_option maxHeartbeats 40000000 in
theorem rmp (l : Launch) (Z : State) (a0 : Array Value) (hw : ∀ d ∈ tables_1, d.before a0 Z = true) (ws : List Jvm.Cond) (p1 : Int32) (q2 : Int64) (q3 : Int64) (q4 : Int64) (h0 : Heap) (n0 : Nat) (Z0 : n0 ≤ h0.size) :
    MetFree l (⟨"com/example/pricewright/pricewright/core/LongSumTableAddPinLaw", "part", "(ZJJJ)J"⟩ : MethodName) (head1 (Jvm.Cond.code (⟨"com/example/pricewright/pricewright/core/LongSumTableAddPinLaw", "part", "(ZJJJ)J"⟩ : MethodName) method_4_code 7 (some .long) :: ws) ({ frames := 0, cells := 0, slots := 0, locals := 0 } : Room)) (fun a U => a = #[(.int p1), (.long q2), (.long q3), (.long q4)] ∧ Z.Warmed39 U.vm ∧ U.heap = h0) (fun _ _ _ _ _ => True) (fun _ U o U' => ∃ v L, o = .returned v ∧ Qrmp Z p1 q2 q3 q4 h0 n0 v U'.heap L ∧ FrameEnd U o U' L ({ frames := 0, cells := 0, slots := 0, locals := 0 } : Room).cells ({ frames := 0, cells := 0, slots := 0, locals := 0 } : Room).slots) := by
  refine MetFree.of_bodySF (plainFor_of_name pn_20) hisR ?_
  intro p e s m args below meth c s₁ Bd hml0 hP hK
  obtain ⟨rfl, hZ, hh⟩ := hP
  have hx := Bd.exec
  have hby := Bd.bytes
  have hml : c.maxLocals = 7 := hml0
  have hown : s.vm.findClass "com/example/pricewright/pricewright/core/LongSumTableAddPinLaw" = some m.cls := findClass_of_methodNamed Bd.named
  have hnm := (name_of_methodNamed Bd.named Bd.method).1
  have X0 : Stand p l e ({ frames := 0, cells := 0, slots := 0, locals := 0 } : Room) s m #[(.int p1), (.long q2), (.long q3), (.long q4)] below meth c s₁ [] 0 0 := Stand.of_body Bd
  have e0 : s₁.heap = h0 := by rw [← hh, Bd.state]; rfl
  have N0 := Fr.nil n0
  have pre0 : ∀ t, Steps p.tables e below (s₁.setTop (mkF m 0 #[.val (.int p1), .val (.long q2), .second, .val (.long q3), .second, .val (.long q4), .second] [])) t → Steps p.tables e below (s₁.setTop (entryFrame m #[(.int p1), (.long q2), (.long q3), (.long q4)] 7)) t := fun t k => castTop (ef_rmp m p1 q2 q3 q4) k
  by_cases hc1 : p1 = (0 : Int32)
  · obtain ⟨fs, hr, hrun, hended, hW, hsame⟩ := X0.leave (v := some (.long (0 : Int64))) (fun h => by rw [Bd.returns] at h; cases h) (BodyLoose.notSynchronized Bd)
    refine ⟨_, _, pre0 _ ?_, hrun, hended, _, _, rfl, ?_, ⟨_, rfl⟩, hW, hsame.mono (by decide) (by decide)⟩
    · show Steps p.tables e below (s₁.setTop (mkF m 0 #[.val (.int p1), .val (.long q2), .second, .val (.long q3), .second, .val (.long q4), .second] [])) _
      refine XS.iloadN X0.here hx rfl (hb hby d20_0) rfl ?_
      refine XS.ifYes X0.here hx rfl (pc0 := 1) (pc' := 15) rfl (hb hby d20_1) rfl ((if0 _ _).trans (teq hc1).1) (by decide) (by decide) ?_
      refine XS.lconst X0.here hx rfl (hb hby d20_15) ?_
      show Steps p.tables e below (s₁.setTop (mkF m 16 #[.val (.int p1), .val (.long q2), .second, .val (.long q3), .second, .val (.long q4), .second] [(.long (0 : Int64))])) _
      exact X0.lreturnOut hx Bd.returns (hb hby d20_16) hr
    · show Qrmp Z p1 q2 q3 q4 h0 n0 _ s₁.heap _
      exact ⟨_, by simp [own_fits, own_part, own_mem, *], rfl, N0, e0⟩
  · by_cases hc7 : q2 = q3
    · obtain ⟨fs, hr, hrun, hended, hW, hsame⟩ := X0.leave (v := some (.long q4)) (fun h => by rw [Bd.returns] at h; cases h) (BodyLoose.notSynchronized Bd)
      refine ⟨_, _, pre0 _ ?_, hrun, hended, _, _, rfl, ?_, ⟨_, rfl⟩, hW, hsame.mono (by decide) (by decide)⟩
      · show Steps p.tables e below (s₁.setTop (mkF m 0 #[.val (.int p1), .val (.long q2), .second, .val (.long q3), .second, .val (.long q4), .second] [])) _
        refine XS.iloadN X0.here hx rfl (hb hby d20_0) rfl ?_
        refine XS.ifNo X0.here hx rfl (hb hby d20_1) rfl ((if0 _ _).trans (feq hc1).1) ?_
        refine XS.lloadN X0.here hx rfl (hb hby d20_4) rfl ?_
        refine XS.lloadN X0.here hx rfl (hb hby d20_5) rfl ?_
        refine XS.lcmp X0.here hx rfl (hb hby d20_6) rfl ?_
        refine XS.ifNo X0.here hx rfl (hb hby d20_7) rfl ((if0 _ _).trans (teq (own_lceq hc7)).2) ?_
        refine XS.lload X0.here hx rfl (hb hby d20_10) rfl ?_
        refine XS.goto X0.here hx rfl (pc0 := 12) (pc' := 16) rfl (hb hby d20_12) (by decide) (by decide) ?_
        show Steps p.tables e below (s₁.setTop (mkF m 16 #[.val (.int p1), .val (.long q2), .second, .val (.long q3), .second, .val (.long q4), .second] [(.long q4)])) _
        exact X0.lreturnOut hx Bd.returns (hb hby d20_16) hr
      · show Qrmp Z p1 q2 q3 q4 h0 n0 _ s₁.heap _
        exact ⟨_, by simp [own_fits, own_part, own_mem, *], rfl, N0, e0⟩
    · obtain ⟨fs, hr, hrun, hended, hW, hsame⟩ := X0.leave (v := some (.long (0 : Int64))) (fun h => by rw [Bd.returns] at h; cases h) (BodyLoose.notSynchronized Bd)
      refine ⟨_, _, pre0 _ ?_, hrun, hended, _, _, rfl, ?_, ⟨_, rfl⟩, hW, hsame.mono (by decide) (by decide)⟩
      · show Steps p.tables e below (s₁.setTop (mkF m 0 #[.val (.int p1), .val (.long q2), .second, .val (.long q3), .second, .val (.long q4), .second] [])) _
        refine XS.iloadN X0.here hx rfl (hb hby d20_0) rfl ?_
        refine XS.ifNo X0.here hx rfl (hb hby d20_1) rfl ((if0 _ _).trans (feq hc1).1) ?_
        refine XS.lloadN X0.here hx rfl (hb hby d20_4) rfl ?_
        refine XS.lloadN X0.here hx rfl (hb hby d20_5) rfl ?_
        refine XS.lcmp X0.here hx rfl (hb hby d20_6) rfl ?_
        refine XS.ifYes X0.here hx rfl (pc0 := 7) (pc' := 15) rfl (hb hby d20_7) rfl ((if0 _ _).trans (feq (own_lcne hc7)).2) (by decide) (by decide) ?_
        refine XS.lconst X0.here hx rfl (hb hby d20_15) ?_
        show Steps p.tables e below (s₁.setTop (mkF m 16 #[.val (.int p1), .val (.long q2), .second, .val (.long q3), .second, .val (.long q4), .second] [(.long (0 : Int64))])) _
        exact X0.lreturnOut hx Bd.returns (hb hby d20_16) hr
      · show Qrmp Z p1 q2 q3 q4 h0 n0 _ s₁.heap _
        exact ⟨_, by simp [own_fits, own_part, own_mem, *], rfl, N0, e0⟩
theorem pd_10 : parseMethodDescriptor "(ZJJJ)J" = some ⟨[.boolean, .long, .long, .long], some .long⟩ := by decide +kernel
theorem d19_0 : decode method_5_code 0 = .ok (.iconst 1, 1) := by decide +kernel
theorem d19_1 : decode method_5_code 1 = .ok (.lload_n 2, 1) := by decide +kernel
theorem d19_2 : decode method_5_code 2 = .ok (.lload_n 0, 1) := by decide +kernel
theorem d19_3 : decode method_5_code 3 = .ok (.lload 4, 2) := by decide +kernel
theorem d19_5 : decode method_5_code 5 = .ok (.invokestatic 13, 3) := by decide +kernel
theorem d19_8 : decode method_5_code 8 = .ok (.iload 6, 2) := by decide +kernel
theorem d19_10 : decode method_5_code 10 = .ok (.lload 7, 2) := by decide +kernel
theorem d19_12 : decode method_5_code 12 = .ok (.lload_n 0, 1) := by decide +kernel
theorem d19_13 : decode method_5_code 13 = .ok (.lload 9, 2) := by decide +kernel
theorem d19_15 : decode method_5_code 15 = .ok (.invokestatic 13, 3) := by decide +kernel
theorem d19_18 : decode method_5_code 18 = .ok (.ladd, 1) := by decide +kernel
theorem d19_19 : decode method_5_code 19 = .ok (.iload 11, 2) := by decide +kernel
theorem d19_21 : decode method_5_code 21 = .ok (.lload 12, 2) := by decide +kernel
theorem d19_23 : decode method_5_code 23 = .ok (.lload_n 0, 1) := by decide +kernel
theorem d19_24 : decode method_5_code 24 = .ok (.lload 14, 2) := by decide +kernel
theorem d19_26 : decode method_5_code 26 = .ok (.invokestatic 13, 3) := by decide +kernel
theorem d19_29 : decode method_5_code 29 = .ok (.ladd, 1) := by decide +kernel
theorem d19_30 : decode method_5_code 30 = .ok (.lreturn, 1) := by decide +kernel
theorem pn_19 : plainName "com/example/pricewright/pricewright/core/LongSumTableAddPinLaw" = true := by first | (simp [plainName, overriddenIn]; done) | decide +kernel
theorem ef_rmx (m : MethodId) (q1 : Int64) (q2 : Int64) (q3 : Int64) (p4 : Int32) (q5 : Int64) (q6 : Int64) (p7 : Int32) (q8 : Int64) (q9 : Int64) : entryFrame m #[(.long q1), (.long q2), (.long q3), (.int p4), (.long q5), (.long q6), (.int p7), (.long q8), (.long q9)] 16 = mkF m 0 #[.val (.long q1), .second, .val (.long q2), .second, .val (.long q3), .second, .val (.int p4), .val (.long q5), .second, .val (.long q6), .second, .val (.int p7), .val (.long q8), .second, .val (.long q9), .second] [] := by first | (simp [entryFrame, mkF, argsToLocals, Value.category]; done) | rfl
def Qrmx (Z : State) (q1 : Int64) (q2 : Int64) (q3 : Int64) (p4 : Int32) (q5 : Int64) (q6 : Int64) (p7 : Int32) (q8 : Int64) (q9 : Int64) (h0 : Heap) (n0 : Nat) (v : Option Value) (h : Heap) (L : List Loc) : Prop := ∃ z : Int64, z = (own_exp q1 q2 q3 p4 q5 q6 p7 q8 q9) ∧ v = some (.long z) ∧ Fr n0 L ∧ h = h0
set_option maxRecDepth 65536 in
set_option maxHeartbeats 40000000 in
theorem rmx (l : Launch) (Z : State) (a0 : Array Value) (hw : ∀ d ∈ tables_1, d.before a0 Z = true) (ws : List Jvm.Cond) (q1 : Int64) (q2 : Int64) (q3 : Int64) (p4 : Int32) (q5 : Int64) (q6 : Int64) (p7 : Int32) (q8 : Int64) (q9 : Int64) (h0 : Heap) (n0 : Nat) (Z0 : n0 ≤ h0.size) :
    MetFree l (⟨"com/example/pricewright/pricewright/core/LongSumTableAddPinLaw", "exp", "(JJJZJJZJJ)J"⟩ : MethodName) (head1 (Jvm.Cond.code (⟨"com/example/pricewright/pricewright/core/LongSumTableAddPinLaw", "exp", "(JJJZJJZJJ)J"⟩ : MethodName) method_5_code 16 (some .long) :: ws) ({ frames := 1, cells := 0, slots := 0, locals := 20 } : Room)) (fun a U => a = #[(.long q1), (.long q2), (.long q3), (.int p4), (.long q5), (.long q6), (.int p7), (.long q8), (.long q9)] ∧ Z.Warmed39 U.vm ∧ U.heap = h0) (fun _ _ _ _ _ => True) (fun _ U o U' => ∃ v L, o = .returned v ∧ Qrmx Z q1 q2 q3 p4 q5 q6 p7 q8 q9 h0 n0 v U'.heap L ∧ FrameEnd U o U' L ({ frames := 1, cells := 0, slots := 0, locals := 20 } : Room).cells ({ frames := 1, cells := 0, slots := 0, locals := 20 } : Room).slots) := by
  refine MetFree.of_bodySF (plainFor_of_name pn_19) hisR ?_
  intro p e s m args below meth c s₁ Bd hml0 hP hK
  obtain ⟨rfl, hZ, hh⟩ := hP
  have hx := Bd.exec
  have hby := Bd.bytes
  have hml : c.maxLocals = 16 := hml0
  have hown : s.vm.findClass "com/example/pricewright/pricewright/core/LongSumTableAddPinLaw" = some m.cls := findClass_of_methodNamed Bd.named
  have hnm := (name_of_methodNamed Bd.named Bd.method).1
  have X0 : Stand p l e ({ frames := 1, cells := 0, slots := 0, locals := 20 } : Room) s m #[(.long q1), (.long q2), (.long q3), (.int p4), (.long q5), (.long q6), (.int p7), (.long q8), (.long q9)] below meth c s₁ [] 0 0 := Stand.of_body Bd
  have e0 : s₁.heap = h0 := by rw [← hh, Bd.state]; rfl
  have N0 := Fr.nil n0
  have pre0 : ∀ t, Steps p.tables e below (s₁.setTop (mkF m 0 #[.val (.long q1), .second, .val (.long q2), .second, .val (.long q3), .second, .val (.int p4), .val (.long q5), .second, .val (.long q6), .second, .val (.int p7), .val (.long q8), .second, .val (.long q9), .second] [])) t → Steps p.tables e below (s₁.setTop (entryFrame m #[(.long q1), (.long q2), (.long q3), (.int p4), (.long q5), (.long q6), (.int p7), (.long q8), (.long q9)] 16)) t := fun t k => castTop (ef_rmx m q1 q2 q3 p4 q5 q6 p7 q8 q9) k
  obtain ⟨_, _, ⟨T1, Lq1, kq1, nq1⟩, -, X1, ⟨Lc1, hQ1, lq1, yq1, zq1⟩, st1⟩ := Jvm.LawKit.callS X0 hx (y := (⟨"com/example/pricewright/pricewright/core/LongSumTableAddPinLaw", "part", "(ZJJJ)J"⟩ : MethodName)) hown (mvT hZ (hw _ (own_w 89 rfl))) (mvT hZ (hw _ (own_w 90 rfl))) (mvT hZ (hw _ (own_w 2 rfl))) (mvT hZ (hw _ (own_w 91 rfl))) (by decide) (backOf (W := 0) (rmp l Z a0 hw [] (1 : Int32) q2 q1 q3  h0 n0 Z0 ) hZ (hw _ (own_w 91 rfl)) (hw _ (own_w 2 rfl)) (by decide) (by decide)) (g := (mkF m 5 #[.val (.long q1), .second, .val (.long q2), .second, .val (.long q3), .second, .val (.int p4), .val (.long q5), .second, .val (.long q6), .second, .val (.int p7), .val (.long q8), .second, .val (.long q9), .second] [(.long q3), (.long q1), (.long q2), (.int (1 : Int32))])) rfl (by rw [hml]; rfl) (argsL := [(.int (1 : Int32)), (.long q2), (.long q1), (.long q3)]) (rest := []) (lenOf pd_10 rfl) rfl (by show 2 * 0 + _ ≤ _; exact Nat.le_of_eq rfl) (hb hby d19_5) (fun _ _ => ⟨rfl, e0, (by decide : 0 + 0 ≤ _), (by decide : 0 + 0 ≤ _)⟩)
  dsimp only [Pt.U, Pt.locs, Pt.cells, Pt.slots] at X1 lq1 yq1 zq1 st1 hQ1
  subst lq1 yq1 zq1
  obtain ⟨r1, hr1, rfl, N1q, e1⟩ := hQ1
  have N1 := Fr.app N0 N1q
  obtain ⟨_, _, ⟨T2, Lq2, kq2, nq2⟩, -, X2, ⟨Lc2, hQ2, lq2, yq2, zq2⟩, st2⟩ := Jvm.LawKit.callS X1 hx (y := (⟨"com/example/pricewright/pricewright/core/LongSumTableAddPinLaw", "part", "(ZJJJ)J"⟩ : MethodName)) hown (mvT hZ (hw _ (own_w 89 rfl))) (mvT hZ (hw _ (own_w 90 rfl))) (mvT hZ (hw _ (own_w 2 rfl))) (mvT hZ (hw _ (own_w 91 rfl))) (by decide) (backOf (W := 2) (rmp l Z a0 hw [] p4 q5 q1 q6  h0 n0 Z0 ) hZ (hw _ (own_w 91 rfl)) (hw _ (own_w 2 rfl)) (by decide) (by decide)) (g := (mkF m 15 #[.val (.long q1), .second, .val (.long q2), .second, .val (.long q3), .second, .val (.int p4), .val (.long q5), .second, .val (.long q6), .second, .val (.int p7), .val (.long q8), .second, .val (.long q9), .second] [(.long q6), (.long q1), (.long q5), (.int p4), (.long r1)])) rfl (by rw [hml]; rfl) (argsL := [(.int p4), (.long q5), (.long q1), (.long q6)]) (rest := [(.long r1)]) (lenOf pd_10 rfl) rfl (by show 2 * 0 + _ ≤ _; exact Nat.le_of_eq rfl) (hb hby d19_15) (fun _ _ => ⟨rfl, e1, (by decide : 0 + 0 ≤ _), (by decide : 0 + 0 ≤ _)⟩)
  dsimp only [Pt.U, Pt.locs, Pt.cells, Pt.slots] at X2 lq2 yq2 zq2 st2 hQ2
  subst lq2 yq2 zq2
  obtain ⟨r2, hr2, rfl, N2q, e2⟩ := hQ2
  have N2 := Fr.app N1 N2q
  obtain ⟨_, _, ⟨T3, Lq3, kq3, nq3⟩, -, X3, ⟨Lc3, hQ3, lq3, yq3, zq3⟩, st3⟩ := Jvm.LawKit.callS X2 hx (y := (⟨"com/example/pricewright/pricewright/core/LongSumTableAddPinLaw", "part", "(ZJJJ)J"⟩ : MethodName)) hown (mvT hZ (hw _ (own_w 89 rfl))) (mvT hZ (hw _ (own_w 90 rfl))) (mvT hZ (hw _ (own_w 2 rfl))) (mvT hZ (hw _ (own_w 91 rfl))) (by decide) (backOf (W := 2) (rmp l Z a0 hw [] p7 q8 q1 q9  h0 n0 Z0 ) hZ (hw _ (own_w 91 rfl)) (hw _ (own_w 2 rfl)) (by decide) (by decide)) (g := (mkF m 26 #[.val (.long q1), .second, .val (.long q2), .second, .val (.long q3), .second, .val (.int p4), .val (.long q5), .second, .val (.long q6), .second, .val (.int p7), .val (.long q8), .second, .val (.long q9), .second] [(.long q9), (.long q1), (.long q8), (.int p7), (.long (r1 + r2))])) rfl (by rw [hml]; rfl) (argsL := [(.int p7), (.long q8), (.long q1), (.long q9)]) (rest := [(.long (r1 + r2))]) (lenOf pd_10 rfl) rfl (by show 2 * 0 + _ ≤ _; exact Nat.le_of_eq rfl) (hb hby d19_26) (fun _ _ => ⟨rfl, e2, (by decide : 0 + 0 ≤ _), (by decide : 0 + 0 ≤ _)⟩)
  dsimp only [Pt.U, Pt.locs, Pt.cells, Pt.slots] at X3 lq3 yq3 zq3 st3 hQ3
  subst lq3 yq3 zq3
  obtain ⟨r3, hr3, rfl, N3q, e3⟩ := hQ3
  have N3 := Fr.app N2 N3q
  obtain ⟨fs, hr, hrun, hended, hW, hsame⟩ := X3.leave (v := some (.long ((r1 + r2) + r3))) (fun h => by rw [Bd.returns] at h; cases h) (BodyLoose.notSynchronized Bd)
  refine ⟨_, _, pre0 _ ?_, hrun, hended, _, _, rfl, ?_, ⟨_, rfl⟩, hW, hsame.mono (by decide) (by decide)⟩
  · show Steps p.tables e below (s₁.setTop (mkF m 0 #[.val (.long q1), .second, .val (.long q2), .second, .val (.long q3), .second, .val (.int p4), .val (.long q5), .second, .val (.long q6), .second, .val (.int p7), .val (.long q8), .second, .val (.long q9), .second] [])) _
    refine XS.iconst X0.here hx rfl (hb hby d19_0) ?_
    refine XS.lloadN X0.here hx rfl (hb hby d19_1) rfl ?_
    refine XS.lloadN X0.here hx rfl (hb hby d19_2) rfl ?_
    refine XS.lload X0.here hx rfl (hb hby d19_3) rfl ?_
    refine st1 _ ?_
    refine XS.iload X1.here hx rfl (hb hby d19_8) rfl ?_
    refine XS.lload X1.here hx rfl (hb hby d19_10) rfl ?_
    refine XS.lloadN X1.here hx rfl (hb hby d19_12) rfl ?_
    refine XS.lload X1.here hx rfl (hb hby d19_13) rfl ?_
    refine st2 _ ?_
    refine XS.ladd X2.here hx rfl (hb hby d19_18) rfl ?_
    refine XS.iload X2.here hx rfl (hb hby d19_19) rfl ?_
    refine XS.lload X2.here hx rfl (hb hby d19_21) rfl ?_
    refine XS.lloadN X2.here hx rfl (hb hby d19_23) rfl ?_
    refine XS.lload X2.here hx rfl (hb hby d19_24) rfl ?_
    refine st3 _ ?_
    refine XS.ladd X3.here hx rfl (hb hby d19_29) rfl ?_
    show Steps p.tables e below (T3.setTop (mkF m 30 #[.val (.long q1), .second, .val (.long q2), .second, .val (.long q3), .second, .val (.int p4), .val (.long q5), .second, .val (.long q6), .second, .val (.int p7), .val (.long q8), .second, .val (.long q9), .second] [(.long ((r1 + r2) + r3))])) _
    exact X3.lreturnOut hx Bd.returns (hb hby d19_30) hr
  · show Qrmx Z q1 q2 q3 p4 q5 q6 p7 q8 q9 h0 n0 _ T3.heap _
    exact ⟨_, by rw [hr1, hr2, hr3]; rfl, rfl, N3, e3⟩
theorem d21_0 : decode method_7_code 0 = .ok (.lload_n 0, 1) := by decide +kernel
theorem d21_1 : decode method_7_code 1 = .ok (.lload_n 2, 1) := by decide +kernel
theorem d21_2 : decode method_7_code 2 = .ok (.lcmp, 1) := by decide +kernel
theorem d21_3 : decode method_7_code 3 = .ok (.ifCond .eq 27, 3) := by decide +kernel
theorem d21_6 : decode method_7_code 6 = .ok (.iload 4, 2) := by decide +kernel
theorem d21_8 : decode method_7_code 8 = .ok (.ifCond .eq 10, 3) := by decide +kernel
theorem d21_11 : decode method_7_code 11 = .ok (.lload_n 0, 1) := by decide +kernel
theorem d21_12 : decode method_7_code 12 = .ok (.lload 5, 2) := by decide +kernel
theorem d21_14 : decode method_7_code 14 = .ok (.lcmp, 1) := by decide +kernel
theorem d21_15 : decode method_7_code 15 = .ok (.ifCond .eq 15, 3) := by decide +kernel
theorem d21_18 : decode method_7_code 18 = .ok (.iload 7, 2) := by decide +kernel
theorem d21_20 : decode method_7_code 20 = .ok (.ifCond .eq 14, 3) := by decide +kernel
theorem d21_23 : decode method_7_code 23 = .ok (.lload_n 0, 1) := by decide +kernel
theorem d21_24 : decode method_7_code 24 = .ok (.lload 8, 2) := by decide +kernel
theorem d21_26 : decode method_7_code 26 = .ok (.lcmp, 1) := by decide +kernel
theorem d21_27 : decode method_7_code 27 = .ok (.ifCond .ne 7, 3) := by decide +kernel
theorem d21_30 : decode method_7_code 30 = .ok (.iconst 1, 1) := by decide +kernel
theorem d21_31 : decode method_7_code 31 = .ok (.goto 4, 3) := by decide +kernel
theorem d21_34 : decode method_7_code 34 = .ok (.iconst 0, 1) := by decide +kernel
theorem d21_35 : decode method_7_code 35 = .ok (.ireturn, 1) := by decide +kernel
theorem pn_21 : plainName "com/example/pricewright/pricewright/core/LongSumTableAddPinLaw" = true := by first | (simp [plainName, overriddenIn]; done) | decide +kernel
theorem ef_rmm (m : MethodId) (q1 : Int64) (q2 : Int64) (p3 : Int32) (q4 : Int64) (p5 : Int32) (q6 : Int64) : entryFrame m #[(.long q1), (.long q2), (.int p3), (.long q4), (.int p5), (.long q6)] 10 = mkF m 0 #[.val (.long q1), .second, .val (.long q2), .second, .val (.int p3), .val (.long q4), .second, .val (.int p5), .val (.long q6), .second] [] := by first | (simp [entryFrame, mkF, argsToLocals, Value.category]; done) | rfl
def Qrmm (Z : State) (q1 : Int64) (q2 : Int64) (p3 : Int32) (q4 : Int64) (p5 : Int32) (q6 : Int64) (h0 : Heap) (n0 : Nat) (v : Option Value) (h : Heap) (L : List Loc) : Prop := ∃ z : Int32, z = (own_mem q1 q2 p3 q4 p5 q6) ∧ v = some (.int z) ∧ Fr n0 L ∧ h = h0
set_option maxRecDepth 65536 in
set_option maxHeartbeats 40000000 in
theorem rmm (l : Launch) (Z : State) (a0 : Array Value) (hw : ∀ d ∈ tables_1, d.before a0 Z = true) (ws : List Jvm.Cond) (q1 : Int64) (q2 : Int64) (p3 : Int32) (q4 : Int64) (p5 : Int32) (q6 : Int64) (h0 : Heap) (n0 : Nat) (Z0 : n0 ≤ h0.size) :
    MetFree l (⟨"com/example/pricewright/pricewright/core/LongSumTableAddPinLaw", "member", "(JJZJZJ)Z"⟩ : MethodName) (head1 (Jvm.Cond.code (⟨"com/example/pricewright/pricewright/core/LongSumTableAddPinLaw", "member", "(JJZJZJ)Z"⟩ : MethodName) method_7_code 10 (some .boolean) :: ws) ({ frames := 0, cells := 0, slots := 0, locals := 0 } : Room)) (fun a U => a = #[(.long q1), (.long q2), (.int p3), (.long q4), (.int p5), (.long q6)] ∧ Z.Warmed39 U.vm ∧ U.heap = h0) (fun _ _ _ _ _ => True) (fun _ U o U' => ∃ v L, o = .returned v ∧ Qrmm Z q1 q2 p3 q4 p5 q6 h0 n0 v U'.heap L ∧ FrameEnd U o U' L ({ frames := 0, cells := 0, slots := 0, locals := 0 } : Room).cells ({ frames := 0, cells := 0, slots := 0, locals := 0 } : Room).slots) := by
  refine MetFree.of_bodySF (plainFor_of_name pn_21) hisR ?_
  intro p e s m args below meth c s₁ Bd hml0 hP hK
  obtain ⟨rfl, hZ, hh⟩ := hP
  have hx := Bd.exec
  have hby := Bd.bytes
  have hml : c.maxLocals = 10 := hml0
  have hown : s.vm.findClass "com/example/pricewright/pricewright/core/LongSumTableAddPinLaw" = some m.cls := findClass_of_methodNamed Bd.named
  have hnm := (name_of_methodNamed Bd.named Bd.method).1
  have X0 : Stand p l e ({ frames := 0, cells := 0, slots := 0, locals := 0 } : Room) s m #[(.long q1), (.long q2), (.int p3), (.long q4), (.int p5), (.long q6)] below meth c s₁ [] 0 0 := Stand.of_body Bd
  have e0 : s₁.heap = h0 := by rw [← hh, Bd.state]; rfl
  have N0 := Fr.nil n0
  have pre0 : ∀ t, Steps p.tables e below (s₁.setTop (mkF m 0 #[.val (.long q1), .second, .val (.long q2), .second, .val (.int p3), .val (.long q4), .second, .val (.int p5), .val (.long q6), .second] [])) t → Steps p.tables e below (s₁.setTop (entryFrame m #[(.long q1), (.long q2), (.int p3), (.long q4), (.int p5), (.long q6)] 10)) t := fun t k => castTop (ef_rmm m q1 q2 p3 q4 p5 q6) k
  by_cases hc3 : q1 = q2
  · obtain ⟨fs, hr, hrun, hended, hW, hsame⟩ := X0.leave (v := some (.int (1 : Int32))) (fun h => by rw [Bd.returns] at h; cases h) (BodyLoose.notSynchronized Bd)
    refine ⟨_, _, pre0 _ ?_, hrun, hended, _, _, rfl, ?_, ⟨_, rfl⟩, hW, hsame.mono (by decide) (by decide)⟩
    · show Steps p.tables e below (s₁.setTop (mkF m 0 #[.val (.long q1), .second, .val (.long q2), .second, .val (.int p3), .val (.long q4), .second, .val (.int p5), .val (.long q6), .second] [])) _
      refine XS.lloadN X0.here hx rfl (hb hby d21_0) rfl ?_
      refine XS.lloadN X0.here hx rfl (hb hby d21_1) rfl ?_
      refine XS.lcmp X0.here hx rfl (hb hby d21_2) rfl ?_
      refine XS.ifYes X0.here hx rfl (pc0 := 3) (pc' := 30) rfl (hb hby d21_3) rfl ((if0 _ _).trans (teq (own_lceq hc3)).1) (by decide) (by decide) ?_
      refine XS.iconst X0.here hx rfl (hb hby d21_30) ?_
      refine XS.goto X0.here hx rfl (pc0 := 31) (pc' := 35) rfl (hb hby d21_31) (by decide) (by decide) ?_
      show Steps p.tables e below (s₁.setTop (mkF m 35 #[.val (.long q1), .second, .val (.long q2), .second, .val (.int p3), .val (.long q4), .second, .val (.int p5), .val (.long q6), .second] [(.int (1 : Int32))])) _
      exact retN X0 hx (t := .boolean) Bd.returns (by simp) (hb hby d21_35) hr
    · show Qrmm Z q1 q2 p3 q4 p5 q6 h0 n0 _ s₁.heap _
      exact ⟨_, by simp [own_fits, own_part, own_mem, *], rfl, N0, e0⟩
  · by_cases hc8 : p3 = (0 : Int32)
    · by_cases hc20 : p5 = (0 : Int32)
      · obtain ⟨fs, hr, hrun, hended, hW, hsame⟩ := X0.leave (v := some (.int (0 : Int32))) (fun h => by rw [Bd.returns] at h; cases h) (BodyLoose.notSynchronized Bd)
        refine ⟨_, _, pre0 _ ?_, hrun, hended, _, _, rfl, ?_, ⟨_, rfl⟩, hW, hsame.mono (by decide) (by decide)⟩
        · show Steps p.tables e below (s₁.setTop (mkF m 0 #[.val (.long q1), .second, .val (.long q2), .second, .val (.int p3), .val (.long q4), .second, .val (.int p5), .val (.long q6), .second] [])) _
          refine XS.lloadN X0.here hx rfl (hb hby d21_0) rfl ?_
          refine XS.lloadN X0.here hx rfl (hb hby d21_1) rfl ?_
          refine XS.lcmp X0.here hx rfl (hb hby d21_2) rfl ?_
          refine XS.ifNo X0.here hx rfl (hb hby d21_3) rfl ((if0 _ _).trans (feq (own_lcne hc3)).1) ?_
          refine XS.iload X0.here hx rfl (hb hby d21_6) rfl ?_
          refine XS.ifYes X0.here hx rfl (pc0 := 8) (pc' := 18) rfl (hb hby d21_8) rfl ((if0 _ _).trans (teq hc8).1) (by decide) (by decide) ?_
          refine XS.iload X0.here hx rfl (hb hby d21_18) rfl ?_
          refine XS.ifYes X0.here hx rfl (pc0 := 20) (pc' := 34) rfl (hb hby d21_20) rfl ((if0 _ _).trans (teq hc20).1) (by decide) (by decide) ?_
          refine XS.iconst X0.here hx rfl (hb hby d21_34) ?_
          show Steps p.tables e below (s₁.setTop (mkF m 35 #[.val (.long q1), .second, .val (.long q2), .second, .val (.int p3), .val (.long q4), .second, .val (.int p5), .val (.long q6), .second] [(.int (0 : Int32))])) _
          exact retN X0 hx (t := .boolean) Bd.returns (by simp) (hb hby d21_35) hr
        · show Qrmm Z q1 q2 p3 q4 p5 q6 h0 n0 _ s₁.heap _
          exact ⟨_, by simp [own_fits, own_part, own_mem, *], rfl, N0, e0⟩
      · by_cases hc27 : q1 = q6
        · obtain ⟨fs, hr, hrun, hended, hW, hsame⟩ := X0.leave (v := some (.int (1 : Int32))) (fun h => by rw [Bd.returns] at h; cases h) (BodyLoose.notSynchronized Bd)
          refine ⟨_, _, pre0 _ ?_, hrun, hended, _, _, rfl, ?_, ⟨_, rfl⟩, hW, hsame.mono (by decide) (by decide)⟩
          · show Steps p.tables e below (s₁.setTop (mkF m 0 #[.val (.long q1), .second, .val (.long q2), .second, .val (.int p3), .val (.long q4), .second, .val (.int p5), .val (.long q6), .second] [])) _
            refine XS.lloadN X0.here hx rfl (hb hby d21_0) rfl ?_
            refine XS.lloadN X0.here hx rfl (hb hby d21_1) rfl ?_
            refine XS.lcmp X0.here hx rfl (hb hby d21_2) rfl ?_
            refine XS.ifNo X0.here hx rfl (hb hby d21_3) rfl ((if0 _ _).trans (feq (own_lcne hc3)).1) ?_
            refine XS.iload X0.here hx rfl (hb hby d21_6) rfl ?_
            refine XS.ifYes X0.here hx rfl (pc0 := 8) (pc' := 18) rfl (hb hby d21_8) rfl ((if0 _ _).trans (teq hc8).1) (by decide) (by decide) ?_
            refine XS.iload X0.here hx rfl (hb hby d21_18) rfl ?_
            refine XS.ifNo X0.here hx rfl (hb hby d21_20) rfl ((if0 _ _).trans (feq hc20).1) ?_
            refine XS.lloadN X0.here hx rfl (hb hby d21_23) rfl ?_
            refine XS.lload X0.here hx rfl (hb hby d21_24) rfl ?_
            refine XS.lcmp X0.here hx rfl (hb hby d21_26) rfl ?_
            refine XS.ifNo X0.here hx rfl (hb hby d21_27) rfl ((if0 _ _).trans (teq (own_lceq hc27)).2) ?_
            refine XS.iconst X0.here hx rfl (hb hby d21_30) ?_
            refine XS.goto X0.here hx rfl (pc0 := 31) (pc' := 35) rfl (hb hby d21_31) (by decide) (by decide) ?_
            show Steps p.tables e below (s₁.setTop (mkF m 35 #[.val (.long q1), .second, .val (.long q2), .second, .val (.int p3), .val (.long q4), .second, .val (.int p5), .val (.long q6), .second] [(.int (1 : Int32))])) _
            exact retN X0 hx (t := .boolean) Bd.returns (by simp) (hb hby d21_35) hr
          · show Qrmm Z q1 q2 p3 q4 p5 q6 h0 n0 _ s₁.heap _
            exact ⟨_, by simp [own_fits, own_part, own_mem, *], rfl, N0, e0⟩
        · obtain ⟨fs, hr, hrun, hended, hW, hsame⟩ := X0.leave (v := some (.int (0 : Int32))) (fun h => by rw [Bd.returns] at h; cases h) (BodyLoose.notSynchronized Bd)
          refine ⟨_, _, pre0 _ ?_, hrun, hended, _, _, rfl, ?_, ⟨_, rfl⟩, hW, hsame.mono (by decide) (by decide)⟩
          · show Steps p.tables e below (s₁.setTop (mkF m 0 #[.val (.long q1), .second, .val (.long q2), .second, .val (.int p3), .val (.long q4), .second, .val (.int p5), .val (.long q6), .second] [])) _
            refine XS.lloadN X0.here hx rfl (hb hby d21_0) rfl ?_
            refine XS.lloadN X0.here hx rfl (hb hby d21_1) rfl ?_
            refine XS.lcmp X0.here hx rfl (hb hby d21_2) rfl ?_
            refine XS.ifNo X0.here hx rfl (hb hby d21_3) rfl ((if0 _ _).trans (feq (own_lcne hc3)).1) ?_
            refine XS.iload X0.here hx rfl (hb hby d21_6) rfl ?_
            refine XS.ifYes X0.here hx rfl (pc0 := 8) (pc' := 18) rfl (hb hby d21_8) rfl ((if0 _ _).trans (teq hc8).1) (by decide) (by decide) ?_
            refine XS.iload X0.here hx rfl (hb hby d21_18) rfl ?_
            refine XS.ifNo X0.here hx rfl (hb hby d21_20) rfl ((if0 _ _).trans (feq hc20).1) ?_
            refine XS.lloadN X0.here hx rfl (hb hby d21_23) rfl ?_
            refine XS.lload X0.here hx rfl (hb hby d21_24) rfl ?_
            refine XS.lcmp X0.here hx rfl (hb hby d21_26) rfl ?_
            refine XS.ifYes X0.here hx rfl (pc0 := 27) (pc' := 34) rfl (hb hby d21_27) rfl ((if0 _ _).trans (feq (own_lcne hc27)).2) (by decide) (by decide) ?_
            refine XS.iconst X0.here hx rfl (hb hby d21_34) ?_
            show Steps p.tables e below (s₁.setTop (mkF m 35 #[.val (.long q1), .second, .val (.long q2), .second, .val (.int p3), .val (.long q4), .second, .val (.int p5), .val (.long q6), .second] [(.int (0 : Int32))])) _
            exact retN X0 hx (t := .boolean) Bd.returns (by simp) (hb hby d21_35) hr
          · show Qrmm Z q1 q2 p3 q4 p5 q6 h0 n0 _ s₁.heap _
            exact ⟨_, by simp [own_fits, own_part, own_mem, *], rfl, N0, e0⟩
    · by_cases hc15 : q1 = q4
      · obtain ⟨fs, hr, hrun, hended, hW, hsame⟩ := X0.leave (v := some (.int (1 : Int32))) (fun h => by rw [Bd.returns] at h; cases h) (BodyLoose.notSynchronized Bd)
        refine ⟨_, _, pre0 _ ?_, hrun, hended, _, _, rfl, ?_, ⟨_, rfl⟩, hW, hsame.mono (by decide) (by decide)⟩
        · show Steps p.tables e below (s₁.setTop (mkF m 0 #[.val (.long q1), .second, .val (.long q2), .second, .val (.int p3), .val (.long q4), .second, .val (.int p5), .val (.long q6), .second] [])) _
          refine XS.lloadN X0.here hx rfl (hb hby d21_0) rfl ?_
          refine XS.lloadN X0.here hx rfl (hb hby d21_1) rfl ?_
          refine XS.lcmp X0.here hx rfl (hb hby d21_2) rfl ?_
          refine XS.ifNo X0.here hx rfl (hb hby d21_3) rfl ((if0 _ _).trans (feq (own_lcne hc3)).1) ?_
          refine XS.iload X0.here hx rfl (hb hby d21_6) rfl ?_
          refine XS.ifNo X0.here hx rfl (hb hby d21_8) rfl ((if0 _ _).trans (feq hc8).1) ?_
          refine XS.lloadN X0.here hx rfl (hb hby d21_11) rfl ?_
          refine XS.lload X0.here hx rfl (hb hby d21_12) rfl ?_
          refine XS.lcmp X0.here hx rfl (hb hby d21_14) rfl ?_
          refine XS.ifYes X0.here hx rfl (pc0 := 15) (pc' := 30) rfl (hb hby d21_15) rfl ((if0 _ _).trans (teq (own_lceq hc15)).1) (by decide) (by decide) ?_
          refine XS.iconst X0.here hx rfl (hb hby d21_30) ?_
          refine XS.goto X0.here hx rfl (pc0 := 31) (pc' := 35) rfl (hb hby d21_31) (by decide) (by decide) ?_
          show Steps p.tables e below (s₁.setTop (mkF m 35 #[.val (.long q1), .second, .val (.long q2), .second, .val (.int p3), .val (.long q4), .second, .val (.int p5), .val (.long q6), .second] [(.int (1 : Int32))])) _
          exact retN X0 hx (t := .boolean) Bd.returns (by simp) (hb hby d21_35) hr
        · show Qrmm Z q1 q2 p3 q4 p5 q6 h0 n0 _ s₁.heap _
          exact ⟨_, by simp [own_fits, own_part, own_mem, *], rfl, N0, e0⟩
      · by_cases hc20 : p5 = (0 : Int32)
        · obtain ⟨fs, hr, hrun, hended, hW, hsame⟩ := X0.leave (v := some (.int (0 : Int32))) (fun h => by rw [Bd.returns] at h; cases h) (BodyLoose.notSynchronized Bd)
          refine ⟨_, _, pre0 _ ?_, hrun, hended, _, _, rfl, ?_, ⟨_, rfl⟩, hW, hsame.mono (by decide) (by decide)⟩
          · show Steps p.tables e below (s₁.setTop (mkF m 0 #[.val (.long q1), .second, .val (.long q2), .second, .val (.int p3), .val (.long q4), .second, .val (.int p5), .val (.long q6), .second] [])) _
            refine XS.lloadN X0.here hx rfl (hb hby d21_0) rfl ?_
            refine XS.lloadN X0.here hx rfl (hb hby d21_1) rfl ?_
            refine XS.lcmp X0.here hx rfl (hb hby d21_2) rfl ?_
            refine XS.ifNo X0.here hx rfl (hb hby d21_3) rfl ((if0 _ _).trans (feq (own_lcne hc3)).1) ?_
            refine XS.iload X0.here hx rfl (hb hby d21_6) rfl ?_
            refine XS.ifNo X0.here hx rfl (hb hby d21_8) rfl ((if0 _ _).trans (feq hc8).1) ?_
            refine XS.lloadN X0.here hx rfl (hb hby d21_11) rfl ?_
            refine XS.lload X0.here hx rfl (hb hby d21_12) rfl ?_
            refine XS.lcmp X0.here hx rfl (hb hby d21_14) rfl ?_
            refine XS.ifNo X0.here hx rfl (hb hby d21_15) rfl ((if0 _ _).trans (feq (own_lcne hc15)).1) ?_
            refine XS.iload X0.here hx rfl (hb hby d21_18) rfl ?_
            refine XS.ifYes X0.here hx rfl (pc0 := 20) (pc' := 34) rfl (hb hby d21_20) rfl ((if0 _ _).trans (teq hc20).1) (by decide) (by decide) ?_
            refine XS.iconst X0.here hx rfl (hb hby d21_34) ?_
            show Steps p.tables e below (s₁.setTop (mkF m 35 #[.val (.long q1), .second, .val (.long q2), .second, .val (.int p3), .val (.long q4), .second, .val (.int p5), .val (.long q6), .second] [(.int (0 : Int32))])) _
            exact retN X0 hx (t := .boolean) Bd.returns (by simp) (hb hby d21_35) hr
          · show Qrmm Z q1 q2 p3 q4 p5 q6 h0 n0 _ s₁.heap _
            exact ⟨_, by simp [own_fits, own_part, own_mem, *], rfl, N0, e0⟩
        · by_cases hc27 : q1 = q6
          · obtain ⟨fs, hr, hrun, hended, hW, hsame⟩ := X0.leave (v := some (.int (1 : Int32))) (fun h => by rw [Bd.returns] at h; cases h) (BodyLoose.notSynchronized Bd)
            refine ⟨_, _, pre0 _ ?_, hrun, hended, _, _, rfl, ?_, ⟨_, rfl⟩, hW, hsame.mono (by decide) (by decide)⟩
            · show Steps p.tables e below (s₁.setTop (mkF m 0 #[.val (.long q1), .second, .val (.long q2), .second, .val (.int p3), .val (.long q4), .second, .val (.int p5), .val (.long q6), .second] [])) _
              refine XS.lloadN X0.here hx rfl (hb hby d21_0) rfl ?_
              refine XS.lloadN X0.here hx rfl (hb hby d21_1) rfl ?_
              refine XS.lcmp X0.here hx rfl (hb hby d21_2) rfl ?_
              refine XS.ifNo X0.here hx rfl (hb hby d21_3) rfl ((if0 _ _).trans (feq (own_lcne hc3)).1) ?_
              refine XS.iload X0.here hx rfl (hb hby d21_6) rfl ?_
              refine XS.ifNo X0.here hx rfl (hb hby d21_8) rfl ((if0 _ _).trans (feq hc8).1) ?_
              refine XS.lloadN X0.here hx rfl (hb hby d21_11) rfl ?_
              refine XS.lload X0.here hx rfl (hb hby d21_12) rfl ?_
              refine XS.lcmp X0.here hx rfl (hb hby d21_14) rfl ?_
              refine XS.ifNo X0.here hx rfl (hb hby d21_15) rfl ((if0 _ _).trans (feq (own_lcne hc15)).1) ?_
              refine XS.iload X0.here hx rfl (hb hby d21_18) rfl ?_
              refine XS.ifNo X0.here hx rfl (hb hby d21_20) rfl ((if0 _ _).trans (feq hc20).1) ?_
              refine XS.lloadN X0.here hx rfl (hb hby d21_23) rfl ?_
              refine XS.lload X0.here hx rfl (hb hby d21_24) rfl ?_
              refine XS.lcmp X0.here hx rfl (hb hby d21_26) rfl ?_
              refine XS.ifNo X0.here hx rfl (hb hby d21_27) rfl ((if0 _ _).trans (teq (own_lceq hc27)).2) ?_
              refine XS.iconst X0.here hx rfl (hb hby d21_30) ?_
              refine XS.goto X0.here hx rfl (pc0 := 31) (pc' := 35) rfl (hb hby d21_31) (by decide) (by decide) ?_
              show Steps p.tables e below (s₁.setTop (mkF m 35 #[.val (.long q1), .second, .val (.long q2), .second, .val (.int p3), .val (.long q4), .second, .val (.int p5), .val (.long q6), .second] [(.int (1 : Int32))])) _
              exact retN X0 hx (t := .boolean) Bd.returns (by simp) (hb hby d21_35) hr
            · show Qrmm Z q1 q2 p3 q4 p5 q6 h0 n0 _ s₁.heap _
              exact ⟨_, by simp [own_fits, own_part, own_mem, *], rfl, N0, e0⟩
          · obtain ⟨fs, hr, hrun, hended, hW, hsame⟩ := X0.leave (v := some (.int (0 : Int32))) (fun h => by rw [Bd.returns] at h; cases h) (BodyLoose.notSynchronized Bd)
            refine ⟨_, _, pre0 _ ?_, hrun, hended, _, _, rfl, ?_, ⟨_, rfl⟩, hW, hsame.mono (by decide) (by decide)⟩
            · show Steps p.tables e below (s₁.setTop (mkF m 0 #[.val (.long q1), .second, .val (.long q2), .second, .val (.int p3), .val (.long q4), .second, .val (.int p5), .val (.long q6), .second] [])) _
              refine XS.lloadN X0.here hx rfl (hb hby d21_0) rfl ?_
              refine XS.lloadN X0.here hx rfl (hb hby d21_1) rfl ?_
              refine XS.lcmp X0.here hx rfl (hb hby d21_2) rfl ?_
              refine XS.ifNo X0.here hx rfl (hb hby d21_3) rfl ((if0 _ _).trans (feq (own_lcne hc3)).1) ?_
              refine XS.iload X0.here hx rfl (hb hby d21_6) rfl ?_
              refine XS.ifNo X0.here hx rfl (hb hby d21_8) rfl ((if0 _ _).trans (feq hc8).1) ?_
              refine XS.lloadN X0.here hx rfl (hb hby d21_11) rfl ?_
              refine XS.lload X0.here hx rfl (hb hby d21_12) rfl ?_
              refine XS.lcmp X0.here hx rfl (hb hby d21_14) rfl ?_
              refine XS.ifNo X0.here hx rfl (hb hby d21_15) rfl ((if0 _ _).trans (feq (own_lcne hc15)).1) ?_
              refine XS.iload X0.here hx rfl (hb hby d21_18) rfl ?_
              refine XS.ifNo X0.here hx rfl (hb hby d21_20) rfl ((if0 _ _).trans (feq hc20).1) ?_
              refine XS.lloadN X0.here hx rfl (hb hby d21_23) rfl ?_
              refine XS.lload X0.here hx rfl (hb hby d21_24) rfl ?_
              refine XS.lcmp X0.here hx rfl (hb hby d21_26) rfl ?_
              refine XS.ifYes X0.here hx rfl (pc0 := 27) (pc' := 34) rfl (hb hby d21_27) rfl ((if0 _ _).trans (feq (own_lcne hc27)).2) (by decide) (by decide) ?_
              refine XS.iconst X0.here hx rfl (hb hby d21_34) ?_
              show Steps p.tables e below (s₁.setTop (mkF m 35 #[.val (.long q1), .second, .val (.long q2), .second, .val (.int p3), .val (.long q4), .second, .val (.int p5), .val (.long q6), .second] [(.int (0 : Int32))])) _
              exact retN X0 hx (t := .boolean) Bd.returns (by simp) (hb hby d21_35) hr
            · show Qrmm Z q1 q2 p3 q4 p5 q6 h0 n0 _ s₁.heap _
              exact ⟨_, by simp [own_fits, own_part, own_mem, *], rfl, N0, e0⟩
theorem d22_0 : decode method_6_code 0 = .ok (.aload_n 0, 1) := by decide +kernel
theorem d22_1 : decode method_6_code 1 = .ok (.arraylength, 1) := by decide +kernel
theorem d22_2 : decode method_6_code 2 = .ok (.ifCond .le 11, 3) := by decide +kernel
theorem d22_5 : decode method_6_code 5 = .ok (.aload_n 0, 1) := by decide +kernel
theorem d22_6 : decode method_6_code 6 = .ok (.iconst 0, 1) := by decide +kernel
theorem d22_7 : decode method_6_code 7 = .ok (.laload, 1) := by decide +kernel
theorem d22_8 : decode method_6_code 8 = .ok (.lload_n 1, 1) := by decide +kernel
theorem d22_9 : decode method_6_code 9 = .ok (.lcmp, 1) := by decide +kernel
theorem d22_10 : decode method_6_code 10 = .ok (.ifCond .eq 31, 3) := by decide +kernel
theorem d22_13 : decode method_6_code 13 = .ok (.aload_n 0, 1) := by decide +kernel
theorem d22_14 : decode method_6_code 14 = .ok (.arraylength, 1) := by decide +kernel
theorem d22_15 : decode method_6_code 15 = .ok (.iconst 1, 1) := by decide +kernel
theorem d22_16 : decode method_6_code 16 = .ok (.if_icmp .le 11, 3) := by decide +kernel
theorem d22_27 : decode method_6_code 27 = .ok (.aload_n 0, 1) := by decide +kernel
theorem d22_28 : decode method_6_code 28 = .ok (.arraylength, 1) := by decide +kernel
theorem d22_29 : decode method_6_code 29 = .ok (.iconst 2, 1) := by decide +kernel
theorem d22_30 : decode method_6_code 30 = .ok (.if_icmp .le 15, 3) := by decide +kernel
theorem d22_41 : decode method_6_code 41 = .ok (.iconst 1, 1) := by decide +kernel
theorem d22_42 : decode method_6_code 42 = .ok (.goto 4, 3) := by decide +kernel
theorem d22_45 : decode method_6_code 45 = .ok (.iconst 0, 1) := by decide +kernel
theorem d22_46 : decode method_6_code 46 = .ok (.ireturn, 1) := by decide +kernel
theorem pn_22 : plainName "com/example/pricewright/pricewright/core/LongSumTableAddPinLaw" = true := by first | (simp [plainName, overriddenIn]; done) | decide +kernel
theorem ef_rmin1 (m : MethodId) (a1 : Addr) (q2 : Int64) : entryFrame m #[(.ref a1), (.long q2)] 3 = mkF m 0 #[.val (.ref a1), .val (.long q2), .second] [] := by first | (simp [entryFrame, mkF, argsToLocals, Value.category]; done) | rfl
def Qrmin1 (Z : State) (a1 : Addr) (q2 : Int64) (k : ClassId) (y0 : Int64) (h0 : Heap) (n0 : Nat) (v : Option Value) (h : Heap) (L : List Loc) : Prop := ∃ z : Int32, z = (if y0 = q2 then 1 else 0) ∧ v = some (.int z) ∧ Fr n0 L ∧ h = h0
set_option maxRecDepth 65536 in
set_option maxHeartbeats 40000000 in
theorem rmin1 (l : Launch) (Z : State) (a0 : Array Value) (hw : ∀ d ∈ tables_1, d.before a0 Z = true) (ws : List Jvm.Cond) (a1 : Addr) (q2 : Int64) (k : ClassId) (y0 : Int64) (h0 : Heap) (n0 : Nat) (Z0 : n0 ≤ h0.size) (A : Arv Z h0 a1 k .long (1 : Int32) [.long y0] (.long (0 : Int64))) :
    MetFree l (⟨"com/example/pricewright/pricewright/core/LongSumTableAddPinLaw", "in", "([JJ)Z"⟩ : MethodName) (head1 (Jvm.Cond.code (⟨"com/example/pricewright/pricewright/core/LongSumTableAddPinLaw", "in", "([JJ)Z"⟩ : MethodName) method_6_code 3 (some .boolean) :: ws) ({ frames := 0, cells := 0, slots := 0, locals := 0 } : Room)) (fun a U => a = #[(.ref a1), (.long q2)] ∧ Z.Warmed39 U.vm ∧ U.heap = h0) (fun _ _ _ _ _ => True) (fun _ U o U' => ∃ v L, o = .returned v ∧ Qrmin1 Z a1 q2 k y0 h0 n0 v U'.heap L ∧ FrameEnd U o U' L ({ frames := 0, cells := 0, slots := 0, locals := 0 } : Room).cells ({ frames := 0, cells := 0, slots := 0, locals := 0 } : Room).slots) := by
  refine MetFree.of_bodySF (plainFor_of_name pn_22) hisR ?_
  intro p e s m args below meth c s₁ Bd hml0 hP hK
  obtain ⟨rfl, hZ, hh⟩ := hP
  have hx := Bd.exec
  have hby := Bd.bytes
  have hml : c.maxLocals = 3 := hml0
  have hown : s.vm.findClass "com/example/pricewright/pricewright/core/LongSumTableAddPinLaw" = some m.cls := findClass_of_methodNamed Bd.named
  have hnm := (name_of_methodNamed Bd.named Bd.method).1
  have X0 : Stand p l e ({ frames := 0, cells := 0, slots := 0, locals := 0 } : Room) s m #[(.ref a1), (.long q2)] below meth c s₁ [] 0 0 := Stand.of_body Bd
  have e0 : s₁.heap = h0 := by rw [← hh, Bd.state]; rfl
  have N0 := Fr.nil n0
  have pre0 : ∀ t, Steps p.tables e below (s₁.setTop (mkF m 0 #[.val (.ref a1), .val (.long q2), .second] [])) t → Steps p.tables e below (s₁.setTop (entryFrame m #[(.ref a1), (.long q2)] 3)) t := fun t k => castTop (ef_rmin1 m a1 q2) k
  obtain ⟨cl1, Ar1, qk1, Sz1, Nn1, Hh1, Gg1⟩ := id (A)
  obtain ⟨cl2, Ar2, qk2, Sz2, Nn2, Hh2, Gg2⟩ := id (A)
  have hin3 : ¬ ((0 : Int32) < 0 ∨ cl2.slots.size ≤ ((0 : Int32)).toNatClampNeg) := inb_of Sz2 ⟨by decide, by decide⟩
  have hat3 : cl2.slots[((0 : Int32)).toNatClampNeg]? = some (.long y0) := Has.at Hh2 hin3 rfl
  by_cases hc10 : y0 = q2
  · obtain ⟨fs, hr, hrun, hended, hW, hsame⟩ := X0.leave (v := some (.int (1 : Int32))) (fun h => by rw [Bd.returns] at h; cases h) (BodyLoose.notSynchronized Bd)
    refine ⟨_, _, pre0 _ ?_, hrun, hended, _, _, rfl, ?_, ⟨_, rfl⟩, hW, hsame.mono (by decide) (by decide)⟩
    · show Steps p.tables e below (s₁.setTop (mkF m 0 #[.val (.ref a1), .val (.long q2), .second] [])) _
      refine XS.aloadN X0.here hx rfl (hb hby d22_0) rfl rfl ?_
      refine X0.arraylength hx (by rw [e0]; exact Ar1.1) (State.isArrayOf_alike hZ.alike Ar1.2.1) (g := (mkF m 1 #[.val (.ref a1), .val (.long q2), .second] [(.ref a1)])) rfl rfl (hb hby d22_1) _ ?_
      rw [len_of Sz1 Nn1]
      show Steps p.tables e below (s₁.setTop (mkF m 2 #[.val (.ref a1), .val (.long q2), .second] [(.int (1 : Int32))])) _
      refine XS.ifNo X0.here hx rfl (hb hby d22_2) rfl ((if0 _ _).trans (tlt (by decide)).2.2.2) ?_
      refine XS.aloadN X0.here hx rfl (hb hby d22_5) rfl rfl ?_
      refine XS.iconst X0.here hx rfl (hb hby d22_6) ?_
      refine X0.laload hx (j := (0 : Int32)) (v := (.long y0)) (by rw [e0]; exact Ar2.1) (State.isArrayOf_alike hZ.alike Ar2.2.1) Ar2.2.2 hin3 hat3 (g := (mkF m 7 #[.val (.ref a1), .val (.long q2), .second] [(.int (0 : Int32)), (.ref a1)])) rfl rfl (hb hby d22_7) _ ?_
      refine XS.lloadN X0.here hx rfl (hb hby d22_8) rfl ?_
      refine XS.lcmp X0.here hx rfl (hb hby d22_9) rfl ?_
      refine XS.ifYes X0.here hx rfl (pc0 := 10) (pc' := 41) rfl (hb hby d22_10) rfl ((if0 _ _).trans (teq (own_lceq hc10)).1) (by decide) (by decide) ?_
      refine XS.iconst X0.here hx rfl (hb hby d22_41) ?_
      refine XS.goto X0.here hx rfl (pc0 := 42) (pc' := 46) rfl (hb hby d22_42) (by decide) (by decide) ?_
      show Steps p.tables e below (s₁.setTop (mkF m 46 #[.val (.ref a1), .val (.long q2), .second] [(.int (1 : Int32))])) _
      exact retN X0 hx (t := .boolean) Bd.returns (by simp) (hb hby d22_46) hr
    · show Qrmin1 Z a1 q2 k y0 h0 n0 _ s₁.heap _
      exact ⟨_, by simp [own_fits, own_part, own_mem, *], rfl, N0, e0⟩
  · obtain ⟨cl4, Ar4, qk4, Sz4, Nn4, Hh4, Gg4⟩ := id (A)
    obtain ⟨cl5, Ar5, qk5, Sz5, Nn5, Hh5, Gg5⟩ := id (A)
    obtain ⟨fs, hr, hrun, hended, hW, hsame⟩ := X0.leave (v := some (.int (0 : Int32))) (fun h => by rw [Bd.returns] at h; cases h) (BodyLoose.notSynchronized Bd)
    refine ⟨_, _, pre0 _ ?_, hrun, hended, _, _, rfl, ?_, ⟨_, rfl⟩, hW, hsame.mono (by decide) (by decide)⟩
    · show Steps p.tables e below (s₁.setTop (mkF m 0 #[.val (.ref a1), .val (.long q2), .second] [])) _
      refine XS.aloadN X0.here hx rfl (hb hby d22_0) rfl rfl ?_
      refine X0.arraylength hx (by rw [e0]; exact Ar1.1) (State.isArrayOf_alike hZ.alike Ar1.2.1) (g := (mkF m 1 #[.val (.ref a1), .val (.long q2), .second] [(.ref a1)])) rfl rfl (hb hby d22_1) _ ?_
      rw [len_of Sz1 Nn1]
      show Steps p.tables e below (s₁.setTop (mkF m 2 #[.val (.ref a1), .val (.long q2), .second] [(.int (1 : Int32))])) _
      refine XS.ifNo X0.here hx rfl (hb hby d22_2) rfl ((if0 _ _).trans (tlt (by decide)).2.2.2) ?_
      refine XS.aloadN X0.here hx rfl (hb hby d22_5) rfl rfl ?_
      refine XS.iconst X0.here hx rfl (hb hby d22_6) ?_
      refine X0.laload hx (j := (0 : Int32)) (v := (.long y0)) (by rw [e0]; exact Ar2.1) (State.isArrayOf_alike hZ.alike Ar2.2.1) Ar2.2.2 hin3 hat3 (g := (mkF m 7 #[.val (.ref a1), .val (.long q2), .second] [(.int (0 : Int32)), (.ref a1)])) rfl rfl (hb hby d22_7) _ ?_
      refine XS.lloadN X0.here hx rfl (hb hby d22_8) rfl ?_
      refine XS.lcmp X0.here hx rfl (hb hby d22_9) rfl ?_
      refine XS.ifNo X0.here hx rfl (hb hby d22_10) rfl ((if0 _ _).trans (feq (own_lcne hc10)).1) ?_
      refine XS.aloadN X0.here hx rfl (hb hby d22_13) rfl rfl ?_
      refine X0.arraylength hx (by rw [e0]; exact Ar4.1) (State.isArrayOf_alike hZ.alike Ar4.2.1) (g := (mkF m 14 #[.val (.ref a1), .val (.long q2), .second] [(.ref a1)])) rfl rfl (hb hby d22_14) _ ?_
      rw [len_of Sz4 Nn4]
      show Steps p.tables e below (s₁.setTop (mkF m 15 #[.val (.ref a1), .val (.long q2), .second] [(.int (1 : Int32))])) _
      refine XS.iconst X0.here hx rfl (hb hby d22_15) ?_
      refine XS.icmpYes X0.here hx rfl (pc0 := 16) (pc' := 27) rfl (hb hby d22_16) rfl (flt (by decide)).2.2.2 (by decide) (by decide) ?_
      refine XS.aloadN X0.here hx rfl (hb hby d22_27) rfl rfl ?_
      refine X0.arraylength hx (by rw [e0]; exact Ar5.1) (State.isArrayOf_alike hZ.alike Ar5.2.1) (g := (mkF m 28 #[.val (.ref a1), .val (.long q2), .second] [(.ref a1)])) rfl rfl (hb hby d22_28) _ ?_
      rw [len_of Sz5 Nn5]
      show Steps p.tables e below (s₁.setTop (mkF m 29 #[.val (.ref a1), .val (.long q2), .second] [(.int (1 : Int32))])) _
      refine XS.iconst X0.here hx rfl (hb hby d22_29) ?_
      refine XS.icmpYes X0.here hx rfl (pc0 := 30) (pc' := 45) rfl (hb hby d22_30) rfl (flt (by decide)).2.2.2 (by decide) (by decide) ?_
      refine XS.iconst X0.here hx rfl (hb hby d22_45) ?_
      show Steps p.tables e below (s₁.setTop (mkF m 46 #[.val (.ref a1), .val (.long q2), .second] [(.int (0 : Int32))])) _
      exact retN X0 hx (t := .boolean) Bd.returns (by simp) (hb hby d22_46) hr
    · show Qrmin1 Z a1 q2 k y0 h0 n0 _ s₁.heap _
      exact ⟨_, by simp [own_fits, own_part, own_mem, *], rfl, N0, e0⟩
theorem d22_19 : decode method_6_code 19 = .ok (.aload_n 0, 1) := by decide +kernel
theorem d22_20 : decode method_6_code 20 = .ok (.iconst 1, 1) := by decide +kernel
theorem d22_21 : decode method_6_code 21 = .ok (.laload, 1) := by decide +kernel
theorem d22_22 : decode method_6_code 22 = .ok (.lload_n 1, 1) := by decide +kernel
theorem d22_23 : decode method_6_code 23 = .ok (.lcmp, 1) := by decide +kernel
theorem d22_24 : decode method_6_code 24 = .ok (.ifCond .eq 17, 3) := by decide +kernel
theorem ef_rmin2 (m : MethodId) (a1 : Addr) (q2 : Int64) : entryFrame m #[(.ref a1), (.long q2)] 3 = mkF m 0 #[.val (.ref a1), .val (.long q2), .second] [] := by first | (simp [entryFrame, mkF, argsToLocals, Value.category]; done) | rfl
def Qrmin2 (Z : State) (a1 : Addr) (q2 : Int64) (k : ClassId) (y0 : Int64) (y1 : Int64) (h0 : Heap) (n0 : Nat) (v : Option Value) (h : Heap) (L : List Loc) : Prop := ∃ z : Int32, z = (if y0 = q2 ∨ y1 = q2 then 1 else 0) ∧ v = some (.int z) ∧ Fr n0 L ∧ h = h0
set_option maxRecDepth 65536 in
set_option maxHeartbeats 40000000 in
theorem rmin2 (l : Launch) (Z : State) (a0 : Array Value) (hw : ∀ d ∈ tables_1, d.before a0 Z = true) (ws : List Jvm.Cond) (a1 : Addr) (q2 : Int64) (k : ClassId) (y0 : Int64) (y1 : Int64) (h0 : Heap) (n0 : Nat) (Z0 : n0 ≤ h0.size) (A : Arv Z h0 a1 k .long (2 : Int32) [.long y0, .long y1] (.long (0 : Int64))) :
    MetFree l (⟨"com/example/pricewright/pricewright/core/LongSumTableAddPinLaw", "in", "([JJ)Z"⟩ : MethodName) (head1 (Jvm.Cond.code (⟨"com/example/pricewright/pricewright/core/LongSumTableAddPinLaw", "in", "([JJ)Z"⟩ : MethodName) method_6_code 3 (some .boolean) :: ws) ({ frames := 0, cells := 0, slots := 0, locals := 0 } : Room)) (fun a U => a = #[(.ref a1), (.long q2)] ∧ Z.Warmed39 U.vm ∧ U.heap = h0) (fun _ _ _ _ _ => True) (fun _ U o U' => ∃ v L, o = .returned v ∧ Qrmin2 Z a1 q2 k y0 y1 h0 n0 v U'.heap L ∧ FrameEnd U o U' L ({ frames := 0, cells := 0, slots := 0, locals := 0 } : Room).cells ({ frames := 0, cells := 0, slots := 0, locals := 0 } : Room).slots) := by
  refine MetFree.of_bodySF (plainFor_of_name pn_22) hisR ?_
  intro p e s m args below meth c s₁ Bd hml0 hP hK
  obtain ⟨rfl, hZ, hh⟩ := hP
  have hx := Bd.exec
  have hby := Bd.bytes
  have hml : c.maxLocals = 3 := hml0
  have hown : s.vm.findClass "com/example/pricewright/pricewright/core/LongSumTableAddPinLaw" = some m.cls := findClass_of_methodNamed Bd.named
  have hnm := (name_of_methodNamed Bd.named Bd.method).1
  have X0 : Stand p l e ({ frames := 0, cells := 0, slots := 0, locals := 0 } : Room) s m #[(.ref a1), (.long q2)] below meth c s₁ [] 0 0 := Stand.of_body Bd
  have e0 : s₁.heap = h0 := by rw [← hh, Bd.state]; rfl
  have N0 := Fr.nil n0
  have pre0 : ∀ t, Steps p.tables e below (s₁.setTop (mkF m 0 #[.val (.ref a1), .val (.long q2), .second] [])) t → Steps p.tables e below (s₁.setTop (entryFrame m #[(.ref a1), (.long q2)] 3)) t := fun t k => castTop (ef_rmin2 m a1 q2) k
  obtain ⟨cl1, Ar1, qk1, Sz1, Nn1, Hh1, Gg1⟩ := id (A)
  obtain ⟨cl2, Ar2, qk2, Sz2, Nn2, Hh2, Gg2⟩ := id (A)
  have hin3 : ¬ ((0 : Int32) < 0 ∨ cl2.slots.size ≤ ((0 : Int32)).toNatClampNeg) := inb_of Sz2 ⟨by decide, by decide⟩
  have hat3 : cl2.slots[((0 : Int32)).toNatClampNeg]? = some (.long y0) := Has.at Hh2 hin3 rfl
  by_cases hc10 : y0 = q2
  · obtain ⟨fs, hr, hrun, hended, hW, hsame⟩ := X0.leave (v := some (.int (1 : Int32))) (fun h => by rw [Bd.returns] at h; cases h) (BodyLoose.notSynchronized Bd)
    refine ⟨_, _, pre0 _ ?_, hrun, hended, _, _, rfl, ?_, ⟨_, rfl⟩, hW, hsame.mono (by decide) (by decide)⟩
    · show Steps p.tables e below (s₁.setTop (mkF m 0 #[.val (.ref a1), .val (.long q2), .second] [])) _
      refine XS.aloadN X0.here hx rfl (hb hby d22_0) rfl rfl ?_
      refine X0.arraylength hx (by rw [e0]; exact Ar1.1) (State.isArrayOf_alike hZ.alike Ar1.2.1) (g := (mkF m 1 #[.val (.ref a1), .val (.long q2), .second] [(.ref a1)])) rfl rfl (hb hby d22_1) _ ?_
      rw [len_of Sz1 Nn1]
      show Steps p.tables e below (s₁.setTop (mkF m 2 #[.val (.ref a1), .val (.long q2), .second] [(.int (2 : Int32))])) _
      refine XS.ifNo X0.here hx rfl (hb hby d22_2) rfl ((if0 _ _).trans (tlt (by decide)).2.2.2) ?_
      refine XS.aloadN X0.here hx rfl (hb hby d22_5) rfl rfl ?_
      refine XS.iconst X0.here hx rfl (hb hby d22_6) ?_
      refine X0.laload hx (j := (0 : Int32)) (v := (.long y0)) (by rw [e0]; exact Ar2.1) (State.isArrayOf_alike hZ.alike Ar2.2.1) Ar2.2.2 hin3 hat3 (g := (mkF m 7 #[.val (.ref a1), .val (.long q2), .second] [(.int (0 : Int32)), (.ref a1)])) rfl rfl (hb hby d22_7) _ ?_
      refine XS.lloadN X0.here hx rfl (hb hby d22_8) rfl ?_
      refine XS.lcmp X0.here hx rfl (hb hby d22_9) rfl ?_
      refine XS.ifYes X0.here hx rfl (pc0 := 10) (pc' := 41) rfl (hb hby d22_10) rfl ((if0 _ _).trans (teq (own_lceq hc10)).1) (by decide) (by decide) ?_
      refine XS.iconst X0.here hx rfl (hb hby d22_41) ?_
      refine XS.goto X0.here hx rfl (pc0 := 42) (pc' := 46) rfl (hb hby d22_42) (by decide) (by decide) ?_
      show Steps p.tables e below (s₁.setTop (mkF m 46 #[.val (.ref a1), .val (.long q2), .second] [(.int (1 : Int32))])) _
      exact retN X0 hx (t := .boolean) Bd.returns (by simp) (hb hby d22_46) hr
    · show Qrmin2 Z a1 q2 k y0 y1 h0 n0 _ s₁.heap _
      exact ⟨_, by simp [own_fits, own_part, own_mem, *], rfl, N0, e0⟩
  · obtain ⟨cl4, Ar4, qk4, Sz4, Nn4, Hh4, Gg4⟩ := id (A)
    obtain ⟨cl5, Ar5, qk5, Sz5, Nn5, Hh5, Gg5⟩ := id (A)
    have hin6 : ¬ ((1 : Int32) < 0 ∨ cl5.slots.size ≤ ((1 : Int32)).toNatClampNeg) := inb_of Sz5 ⟨by decide, by decide⟩
    have hat6 : cl5.slots[((1 : Int32)).toNatClampNeg]? = some (.long y1) := Has.at Hh5 hin6 rfl
    by_cases hc24 : y1 = q2
    · obtain ⟨fs, hr, hrun, hended, hW, hsame⟩ := X0.leave (v := some (.int (1 : Int32))) (fun h => by rw [Bd.returns] at h; cases h) (BodyLoose.notSynchronized Bd)
      refine ⟨_, _, pre0 _ ?_, hrun, hended, _, _, rfl, ?_, ⟨_, rfl⟩, hW, hsame.mono (by decide) (by decide)⟩
      · show Steps p.tables e below (s₁.setTop (mkF m 0 #[.val (.ref a1), .val (.long q2), .second] [])) _
        refine XS.aloadN X0.here hx rfl (hb hby d22_0) rfl rfl ?_
        refine X0.arraylength hx (by rw [e0]; exact Ar1.1) (State.isArrayOf_alike hZ.alike Ar1.2.1) (g := (mkF m 1 #[.val (.ref a1), .val (.long q2), .second] [(.ref a1)])) rfl rfl (hb hby d22_1) _ ?_
        rw [len_of Sz1 Nn1]
        show Steps p.tables e below (s₁.setTop (mkF m 2 #[.val (.ref a1), .val (.long q2), .second] [(.int (2 : Int32))])) _
        refine XS.ifNo X0.here hx rfl (hb hby d22_2) rfl ((if0 _ _).trans (tlt (by decide)).2.2.2) ?_
        refine XS.aloadN X0.here hx rfl (hb hby d22_5) rfl rfl ?_
        refine XS.iconst X0.here hx rfl (hb hby d22_6) ?_
        refine X0.laload hx (j := (0 : Int32)) (v := (.long y0)) (by rw [e0]; exact Ar2.1) (State.isArrayOf_alike hZ.alike Ar2.2.1) Ar2.2.2 hin3 hat3 (g := (mkF m 7 #[.val (.ref a1), .val (.long q2), .second] [(.int (0 : Int32)), (.ref a1)])) rfl rfl (hb hby d22_7) _ ?_
        refine XS.lloadN X0.here hx rfl (hb hby d22_8) rfl ?_
        refine XS.lcmp X0.here hx rfl (hb hby d22_9) rfl ?_
        refine XS.ifNo X0.here hx rfl (hb hby d22_10) rfl ((if0 _ _).trans (feq (own_lcne hc10)).1) ?_
        refine XS.aloadN X0.here hx rfl (hb hby d22_13) rfl rfl ?_
        refine X0.arraylength hx (by rw [e0]; exact Ar4.1) (State.isArrayOf_alike hZ.alike Ar4.2.1) (g := (mkF m 14 #[.val (.ref a1), .val (.long q2), .second] [(.ref a1)])) rfl rfl (hb hby d22_14) _ ?_
        rw [len_of Sz4 Nn4]
        show Steps p.tables e below (s₁.setTop (mkF m 15 #[.val (.ref a1), .val (.long q2), .second] [(.int (2 : Int32))])) _
        refine XS.iconst X0.here hx rfl (hb hby d22_15) ?_
        refine XS.icmpNo X0.here hx rfl (hb hby d22_16) rfl (tlt (by decide)).2.2.2 ?_
        refine XS.aloadN X0.here hx rfl (hb hby d22_19) rfl rfl ?_
        refine XS.iconst X0.here hx rfl (hb hby d22_20) ?_
        refine X0.laload hx (j := (1 : Int32)) (v := (.long y1)) (by rw [e0]; exact Ar5.1) (State.isArrayOf_alike hZ.alike Ar5.2.1) Ar5.2.2 hin6 hat6 (g := (mkF m 21 #[.val (.ref a1), .val (.long q2), .second] [(.int (1 : Int32)), (.ref a1)])) rfl rfl (hb hby d22_21) _ ?_
        refine XS.lloadN X0.here hx rfl (hb hby d22_22) rfl ?_
        refine XS.lcmp X0.here hx rfl (hb hby d22_23) rfl ?_
        refine XS.ifYes X0.here hx rfl (pc0 := 24) (pc' := 41) rfl (hb hby d22_24) rfl ((if0 _ _).trans (teq (own_lceq hc24)).1) (by decide) (by decide) ?_
        refine XS.iconst X0.here hx rfl (hb hby d22_41) ?_
        refine XS.goto X0.here hx rfl (pc0 := 42) (pc' := 46) rfl (hb hby d22_42) (by decide) (by decide) ?_
        show Steps p.tables e below (s₁.setTop (mkF m 46 #[.val (.ref a1), .val (.long q2), .second] [(.int (1 : Int32))])) _
        exact retN X0 hx (t := .boolean) Bd.returns (by simp) (hb hby d22_46) hr
      · show Qrmin2 Z a1 q2 k y0 y1 h0 n0 _ s₁.heap _
        exact ⟨_, by simp [own_fits, own_part, own_mem, *], rfl, N0, e0⟩
    · obtain ⟨cl7, Ar7, qk7, Sz7, Nn7, Hh7, Gg7⟩ := id (A)
      obtain ⟨fs, hr, hrun, hended, hW, hsame⟩ := X0.leave (v := some (.int (0 : Int32))) (fun h => by rw [Bd.returns] at h; cases h) (BodyLoose.notSynchronized Bd)
      refine ⟨_, _, pre0 _ ?_, hrun, hended, _, _, rfl, ?_, ⟨_, rfl⟩, hW, hsame.mono (by decide) (by decide)⟩
      · show Steps p.tables e below (s₁.setTop (mkF m 0 #[.val (.ref a1), .val (.long q2), .second] [])) _
        refine XS.aloadN X0.here hx rfl (hb hby d22_0) rfl rfl ?_
        refine X0.arraylength hx (by rw [e0]; exact Ar1.1) (State.isArrayOf_alike hZ.alike Ar1.2.1) (g := (mkF m 1 #[.val (.ref a1), .val (.long q2), .second] [(.ref a1)])) rfl rfl (hb hby d22_1) _ ?_
        rw [len_of Sz1 Nn1]
        show Steps p.tables e below (s₁.setTop (mkF m 2 #[.val (.ref a1), .val (.long q2), .second] [(.int (2 : Int32))])) _
        refine XS.ifNo X0.here hx rfl (hb hby d22_2) rfl ((if0 _ _).trans (tlt (by decide)).2.2.2) ?_
        refine XS.aloadN X0.here hx rfl (hb hby d22_5) rfl rfl ?_
        refine XS.iconst X0.here hx rfl (hb hby d22_6) ?_
        refine X0.laload hx (j := (0 : Int32)) (v := (.long y0)) (by rw [e0]; exact Ar2.1) (State.isArrayOf_alike hZ.alike Ar2.2.1) Ar2.2.2 hin3 hat3 (g := (mkF m 7 #[.val (.ref a1), .val (.long q2), .second] [(.int (0 : Int32)), (.ref a1)])) rfl rfl (hb hby d22_7) _ ?_
        refine XS.lloadN X0.here hx rfl (hb hby d22_8) rfl ?_
        refine XS.lcmp X0.here hx rfl (hb hby d22_9) rfl ?_
        refine XS.ifNo X0.here hx rfl (hb hby d22_10) rfl ((if0 _ _).trans (feq (own_lcne hc10)).1) ?_
        refine XS.aloadN X0.here hx rfl (hb hby d22_13) rfl rfl ?_
        refine X0.arraylength hx (by rw [e0]; exact Ar4.1) (State.isArrayOf_alike hZ.alike Ar4.2.1) (g := (mkF m 14 #[.val (.ref a1), .val (.long q2), .second] [(.ref a1)])) rfl rfl (hb hby d22_14) _ ?_
        rw [len_of Sz4 Nn4]
        show Steps p.tables e below (s₁.setTop (mkF m 15 #[.val (.ref a1), .val (.long q2), .second] [(.int (2 : Int32))])) _
        refine XS.iconst X0.here hx rfl (hb hby d22_15) ?_
        refine XS.icmpNo X0.here hx rfl (hb hby d22_16) rfl (tlt (by decide)).2.2.2 ?_
        refine XS.aloadN X0.here hx rfl (hb hby d22_19) rfl rfl ?_
        refine XS.iconst X0.here hx rfl (hb hby d22_20) ?_
        refine X0.laload hx (j := (1 : Int32)) (v := (.long y1)) (by rw [e0]; exact Ar5.1) (State.isArrayOf_alike hZ.alike Ar5.2.1) Ar5.2.2 hin6 hat6 (g := (mkF m 21 #[.val (.ref a1), .val (.long q2), .second] [(.int (1 : Int32)), (.ref a1)])) rfl rfl (hb hby d22_21) _ ?_
        refine XS.lloadN X0.here hx rfl (hb hby d22_22) rfl ?_
        refine XS.lcmp X0.here hx rfl (hb hby d22_23) rfl ?_
        refine XS.ifNo X0.here hx rfl (hb hby d22_24) rfl ((if0 _ _).trans (feq (own_lcne hc24)).1) ?_
        refine XS.aloadN X0.here hx rfl (hb hby d22_27) rfl rfl ?_
        refine X0.arraylength hx (by rw [e0]; exact Ar7.1) (State.isArrayOf_alike hZ.alike Ar7.2.1) (g := (mkF m 28 #[.val (.ref a1), .val (.long q2), .second] [(.ref a1)])) rfl rfl (hb hby d22_28) _ ?_
        rw [len_of Sz7 Nn7]
        show Steps p.tables e below (s₁.setTop (mkF m 29 #[.val (.ref a1), .val (.long q2), .second] [(.int (2 : Int32))])) _
        refine XS.iconst X0.here hx rfl (hb hby d22_29) ?_
        refine XS.icmpYes X0.here hx rfl (pc0 := 30) (pc' := 45) rfl (hb hby d22_30) rfl (flt (by decide)).2.2.2 (by decide) (by decide) ?_
        refine XS.iconst X0.here hx rfl (hb hby d22_45) ?_
        show Steps p.tables e below (s₁.setTop (mkF m 46 #[.val (.ref a1), .val (.long q2), .second] [(.int (0 : Int32))])) _
        exact retN X0 hx (t := .boolean) Bd.returns (by simp) (hb hby d22_46) hr
      · show Qrmin2 Z a1 q2 k y0 y1 h0 n0 _ s₁.heap _
        exact ⟨_, by simp [own_fits, own_part, own_mem, *], rfl, N0, e0⟩
theorem d22_33 : decode method_6_code 33 = .ok (.aload_n 0, 1) := by decide +kernel
theorem d22_34 : decode method_6_code 34 = .ok (.iconst 2, 1) := by decide +kernel
theorem d22_35 : decode method_6_code 35 = .ok (.laload, 1) := by decide +kernel
theorem d22_36 : decode method_6_code 36 = .ok (.lload_n 1, 1) := by decide +kernel
theorem d22_37 : decode method_6_code 37 = .ok (.lcmp, 1) := by decide +kernel
theorem d22_38 : decode method_6_code 38 = .ok (.ifCond .ne 7, 3) := by decide +kernel
theorem ef_rmin3 (m : MethodId) (a1 : Addr) (q2 : Int64) : entryFrame m #[(.ref a1), (.long q2)] 3 = mkF m 0 #[.val (.ref a1), .val (.long q2), .second] [] := by first | (simp [entryFrame, mkF, argsToLocals, Value.category]; done) | rfl
def Qrmin3 (Z : State) (a1 : Addr) (q2 : Int64) (k : ClassId) (y0 : Int64) (y1 : Int64) (y2 : Int64) (h0 : Heap) (n0 : Nat) (v : Option Value) (h : Heap) (L : List Loc) : Prop := ∃ z : Int32, z = (if y0 = q2 ∨ y1 = q2 ∨ y2 = q2 then 1 else 0) ∧ v = some (.int z) ∧ Fr n0 L ∧ h = h0
set_option maxRecDepth 65536 in
set_option maxHeartbeats 40000000 in
theorem rmin3 (l : Launch) (Z : State) (a0 : Array Value) (hw : ∀ d ∈ tables_1, d.before a0 Z = true) (ws : List Jvm.Cond) (a1 : Addr) (q2 : Int64) (k : ClassId) (y0 : Int64) (y1 : Int64) (y2 : Int64) (h0 : Heap) (n0 : Nat) (Z0 : n0 ≤ h0.size) (A : Arv Z h0 a1 k .long (3 : Int32) [.long y0, .long y1, .long y2] (.long (0 : Int64))) :
    MetFree l (⟨"com/example/pricewright/pricewright/core/LongSumTableAddPinLaw", "in", "([JJ)Z"⟩ : MethodName) (head1 (Jvm.Cond.code (⟨"com/example/pricewright/pricewright/core/LongSumTableAddPinLaw", "in", "([JJ)Z"⟩ : MethodName) method_6_code 3 (some .boolean) :: ws) ({ frames := 0, cells := 0, slots := 0, locals := 0 } : Room)) (fun a U => a = #[(.ref a1), (.long q2)] ∧ Z.Warmed39 U.vm ∧ U.heap = h0) (fun _ _ _ _ _ => True) (fun _ U o U' => ∃ v L, o = .returned v ∧ Qrmin3 Z a1 q2 k y0 y1 y2 h0 n0 v U'.heap L ∧ FrameEnd U o U' L ({ frames := 0, cells := 0, slots := 0, locals := 0 } : Room).cells ({ frames := 0, cells := 0, slots := 0, locals := 0 } : Room).slots) := by
  refine MetFree.of_bodySF (plainFor_of_name pn_22) hisR ?_
  intro p e s m args below meth c s₁ Bd hml0 hP hK
  obtain ⟨rfl, hZ, hh⟩ := hP
  have hx := Bd.exec
  have hby := Bd.bytes
  have hml : c.maxLocals = 3 := hml0
  have hown : s.vm.findClass "com/example/pricewright/pricewright/core/LongSumTableAddPinLaw" = some m.cls := findClass_of_methodNamed Bd.named
  have hnm := (name_of_methodNamed Bd.named Bd.method).1
  have X0 : Stand p l e ({ frames := 0, cells := 0, slots := 0, locals := 0 } : Room) s m #[(.ref a1), (.long q2)] below meth c s₁ [] 0 0 := Stand.of_body Bd
  have e0 : s₁.heap = h0 := by rw [← hh, Bd.state]; rfl
  have N0 := Fr.nil n0
  have pre0 : ∀ t, Steps p.tables e below (s₁.setTop (mkF m 0 #[.val (.ref a1), .val (.long q2), .second] [])) t → Steps p.tables e below (s₁.setTop (entryFrame m #[(.ref a1), (.long q2)] 3)) t := fun t k => castTop (ef_rmin3 m a1 q2) k
  obtain ⟨cl1, Ar1, qk1, Sz1, Nn1, Hh1, Gg1⟩ := id (A)
  obtain ⟨cl2, Ar2, qk2, Sz2, Nn2, Hh2, Gg2⟩ := id (A)
  have hin3 : ¬ ((0 : Int32) < 0 ∨ cl2.slots.size ≤ ((0 : Int32)).toNatClampNeg) := inb_of Sz2 ⟨by decide, by decide⟩
  have hat3 : cl2.slots[((0 : Int32)).toNatClampNeg]? = some (.long y0) := Has.at Hh2 hin3 rfl
  by_cases hc10 : y0 = q2
  · obtain ⟨fs, hr, hrun, hended, hW, hsame⟩ := X0.leave (v := some (.int (1 : Int32))) (fun h => by rw [Bd.returns] at h; cases h) (BodyLoose.notSynchronized Bd)
    refine ⟨_, _, pre0 _ ?_, hrun, hended, _, _, rfl, ?_, ⟨_, rfl⟩, hW, hsame.mono (by decide) (by decide)⟩
    · show Steps p.tables e below (s₁.setTop (mkF m 0 #[.val (.ref a1), .val (.long q2), .second] [])) _
      refine XS.aloadN X0.here hx rfl (hb hby d22_0) rfl rfl ?_
      refine X0.arraylength hx (by rw [e0]; exact Ar1.1) (State.isArrayOf_alike hZ.alike Ar1.2.1) (g := (mkF m 1 #[.val (.ref a1), .val (.long q2), .second] [(.ref a1)])) rfl rfl (hb hby d22_1) _ ?_
      rw [len_of Sz1 Nn1]
      show Steps p.tables e below (s₁.setTop (mkF m 2 #[.val (.ref a1), .val (.long q2), .second] [(.int (3 : Int32))])) _
      refine XS.ifNo X0.here hx rfl (hb hby d22_2) rfl ((if0 _ _).trans (tlt (by decide)).2.2.2) ?_
      refine XS.aloadN X0.here hx rfl (hb hby d22_5) rfl rfl ?_
      refine XS.iconst X0.here hx rfl (hb hby d22_6) ?_
      refine X0.laload hx (j := (0 : Int32)) (v := (.long y0)) (by rw [e0]; exact Ar2.1) (State.isArrayOf_alike hZ.alike Ar2.2.1) Ar2.2.2 hin3 hat3 (g := (mkF m 7 #[.val (.ref a1), .val (.long q2), .second] [(.int (0 : Int32)), (.ref a1)])) rfl rfl (hb hby d22_7) _ ?_
      refine XS.lloadN X0.here hx rfl (hb hby d22_8) rfl ?_
      refine XS.lcmp X0.here hx rfl (hb hby d22_9) rfl ?_
      refine XS.ifYes X0.here hx rfl (pc0 := 10) (pc' := 41) rfl (hb hby d22_10) rfl ((if0 _ _).trans (teq (own_lceq hc10)).1) (by decide) (by decide) ?_
      refine XS.iconst X0.here hx rfl (hb hby d22_41) ?_
      refine XS.goto X0.here hx rfl (pc0 := 42) (pc' := 46) rfl (hb hby d22_42) (by decide) (by decide) ?_
      show Steps p.tables e below (s₁.setTop (mkF m 46 #[.val (.ref a1), .val (.long q2), .second] [(.int (1 : Int32))])) _
      exact retN X0 hx (t := .boolean) Bd.returns (by simp) (hb hby d22_46) hr
    · show Qrmin3 Z a1 q2 k y0 y1 y2 h0 n0 _ s₁.heap _
      exact ⟨_, by simp [own_fits, own_part, own_mem, *], rfl, N0, e0⟩
  · obtain ⟨cl4, Ar4, qk4, Sz4, Nn4, Hh4, Gg4⟩ := id (A)
    obtain ⟨cl5, Ar5, qk5, Sz5, Nn5, Hh5, Gg5⟩ := id (A)
    have hin6 : ¬ ((1 : Int32) < 0 ∨ cl5.slots.size ≤ ((1 : Int32)).toNatClampNeg) := inb_of Sz5 ⟨by decide, by decide⟩
    have hat6 : cl5.slots[((1 : Int32)).toNatClampNeg]? = some (.long y1) := Has.at Hh5 hin6 rfl
    by_cases hc24 : y1 = q2
    · obtain ⟨fs, hr, hrun, hended, hW, hsame⟩ := X0.leave (v := some (.int (1 : Int32))) (fun h => by rw [Bd.returns] at h; cases h) (BodyLoose.notSynchronized Bd)
      refine ⟨_, _, pre0 _ ?_, hrun, hended, _, _, rfl, ?_, ⟨_, rfl⟩, hW, hsame.mono (by decide) (by decide)⟩
      · show Steps p.tables e below (s₁.setTop (mkF m 0 #[.val (.ref a1), .val (.long q2), .second] [])) _
        refine XS.aloadN X0.here hx rfl (hb hby d22_0) rfl rfl ?_
        refine X0.arraylength hx (by rw [e0]; exact Ar1.1) (State.isArrayOf_alike hZ.alike Ar1.2.1) (g := (mkF m 1 #[.val (.ref a1), .val (.long q2), .second] [(.ref a1)])) rfl rfl (hb hby d22_1) _ ?_
        rw [len_of Sz1 Nn1]
        show Steps p.tables e below (s₁.setTop (mkF m 2 #[.val (.ref a1), .val (.long q2), .second] [(.int (3 : Int32))])) _
        refine XS.ifNo X0.here hx rfl (hb hby d22_2) rfl ((if0 _ _).trans (tlt (by decide)).2.2.2) ?_
        refine XS.aloadN X0.here hx rfl (hb hby d22_5) rfl rfl ?_
        refine XS.iconst X0.here hx rfl (hb hby d22_6) ?_
        refine X0.laload hx (j := (0 : Int32)) (v := (.long y0)) (by rw [e0]; exact Ar2.1) (State.isArrayOf_alike hZ.alike Ar2.2.1) Ar2.2.2 hin3 hat3 (g := (mkF m 7 #[.val (.ref a1), .val (.long q2), .second] [(.int (0 : Int32)), (.ref a1)])) rfl rfl (hb hby d22_7) _ ?_
        refine XS.lloadN X0.here hx rfl (hb hby d22_8) rfl ?_
        refine XS.lcmp X0.here hx rfl (hb hby d22_9) rfl ?_
        refine XS.ifNo X0.here hx rfl (hb hby d22_10) rfl ((if0 _ _).trans (feq (own_lcne hc10)).1) ?_
        refine XS.aloadN X0.here hx rfl (hb hby d22_13) rfl rfl ?_
        refine X0.arraylength hx (by rw [e0]; exact Ar4.1) (State.isArrayOf_alike hZ.alike Ar4.2.1) (g := (mkF m 14 #[.val (.ref a1), .val (.long q2), .second] [(.ref a1)])) rfl rfl (hb hby d22_14) _ ?_
        rw [len_of Sz4 Nn4]
        show Steps p.tables e below (s₁.setTop (mkF m 15 #[.val (.ref a1), .val (.long q2), .second] [(.int (3 : Int32))])) _
        refine XS.iconst X0.here hx rfl (hb hby d22_15) ?_
        refine XS.icmpNo X0.here hx rfl (hb hby d22_16) rfl (tlt (by decide)).2.2.2 ?_
        refine XS.aloadN X0.here hx rfl (hb hby d22_19) rfl rfl ?_
        refine XS.iconst X0.here hx rfl (hb hby d22_20) ?_
        refine X0.laload hx (j := (1 : Int32)) (v := (.long y1)) (by rw [e0]; exact Ar5.1) (State.isArrayOf_alike hZ.alike Ar5.2.1) Ar5.2.2 hin6 hat6 (g := (mkF m 21 #[.val (.ref a1), .val (.long q2), .second] [(.int (1 : Int32)), (.ref a1)])) rfl rfl (hb hby d22_21) _ ?_
        refine XS.lloadN X0.here hx rfl (hb hby d22_22) rfl ?_
        refine XS.lcmp X0.here hx rfl (hb hby d22_23) rfl ?_
        refine XS.ifYes X0.here hx rfl (pc0 := 24) (pc' := 41) rfl (hb hby d22_24) rfl ((if0 _ _).trans (teq (own_lceq hc24)).1) (by decide) (by decide) ?_
        refine XS.iconst X0.here hx rfl (hb hby d22_41) ?_
        refine XS.goto X0.here hx rfl (pc0 := 42) (pc' := 46) rfl (hb hby d22_42) (by decide) (by decide) ?_
        show Steps p.tables e below (s₁.setTop (mkF m 46 #[.val (.ref a1), .val (.long q2), .second] [(.int (1 : Int32))])) _
        exact retN X0 hx (t := .boolean) Bd.returns (by simp) (hb hby d22_46) hr
      · show Qrmin3 Z a1 q2 k y0 y1 y2 h0 n0 _ s₁.heap _
        exact ⟨_, by simp [own_fits, own_part, own_mem, *], rfl, N0, e0⟩
    · obtain ⟨cl7, Ar7, qk7, Sz7, Nn7, Hh7, Gg7⟩ := id (A)
      obtain ⟨cl8, Ar8, qk8, Sz8, Nn8, Hh8, Gg8⟩ := id (A)
      have hin9 : ¬ ((2 : Int32) < 0 ∨ cl8.slots.size ≤ ((2 : Int32)).toNatClampNeg) := inb_of Sz8 ⟨by decide, by decide⟩
      have hat9 : cl8.slots[((2 : Int32)).toNatClampNeg]? = some (.long y2) := Has.at Hh8 hin9 rfl
      by_cases hc38 : y2 = q2
      · obtain ⟨fs, hr, hrun, hended, hW, hsame⟩ := X0.leave (v := some (.int (1 : Int32))) (fun h => by rw [Bd.returns] at h; cases h) (BodyLoose.notSynchronized Bd)
        refine ⟨_, _, pre0 _ ?_, hrun, hended, _, _, rfl, ?_, ⟨_, rfl⟩, hW, hsame.mono (by decide) (by decide)⟩
        · show Steps p.tables e below (s₁.setTop (mkF m 0 #[.val (.ref a1), .val (.long q2), .second] [])) _
          refine XS.aloadN X0.here hx rfl (hb hby d22_0) rfl rfl ?_
          refine X0.arraylength hx (by rw [e0]; exact Ar1.1) (State.isArrayOf_alike hZ.alike Ar1.2.1) (g := (mkF m 1 #[.val (.ref a1), .val (.long q2), .second] [(.ref a1)])) rfl rfl (hb hby d22_1) _ ?_
          rw [len_of Sz1 Nn1]
          show Steps p.tables e below (s₁.setTop (mkF m 2 #[.val (.ref a1), .val (.long q2), .second] [(.int (3 : Int32))])) _
          refine XS.ifNo X0.here hx rfl (hb hby d22_2) rfl ((if0 _ _).trans (tlt (by decide)).2.2.2) ?_
          refine XS.aloadN X0.here hx rfl (hb hby d22_5) rfl rfl ?_
          refine XS.iconst X0.here hx rfl (hb hby d22_6) ?_
          refine X0.laload hx (j := (0 : Int32)) (v := (.long y0)) (by rw [e0]; exact Ar2.1) (State.isArrayOf_alike hZ.alike Ar2.2.1) Ar2.2.2 hin3 hat3 (g := (mkF m 7 #[.val (.ref a1), .val (.long q2), .second] [(.int (0 : Int32)), (.ref a1)])) rfl rfl (hb hby d22_7) _ ?_
          refine XS.lloadN X0.here hx rfl (hb hby d22_8) rfl ?_
          refine XS.lcmp X0.here hx rfl (hb hby d22_9) rfl ?_
          refine XS.ifNo X0.here hx rfl (hb hby d22_10) rfl ((if0 _ _).trans (feq (own_lcne hc10)).1) ?_
          refine XS.aloadN X0.here hx rfl (hb hby d22_13) rfl rfl ?_
          refine X0.arraylength hx (by rw [e0]; exact Ar4.1) (State.isArrayOf_alike hZ.alike Ar4.2.1) (g := (mkF m 14 #[.val (.ref a1), .val (.long q2), .second] [(.ref a1)])) rfl rfl (hb hby d22_14) _ ?_
          rw [len_of Sz4 Nn4]
          show Steps p.tables e below (s₁.setTop (mkF m 15 #[.val (.ref a1), .val (.long q2), .second] [(.int (3 : Int32))])) _
          refine XS.iconst X0.here hx rfl (hb hby d22_15) ?_
          refine XS.icmpNo X0.here hx rfl (hb hby d22_16) rfl (tlt (by decide)).2.2.2 ?_
          refine XS.aloadN X0.here hx rfl (hb hby d22_19) rfl rfl ?_
          refine XS.iconst X0.here hx rfl (hb hby d22_20) ?_
          refine X0.laload hx (j := (1 : Int32)) (v := (.long y1)) (by rw [e0]; exact Ar5.1) (State.isArrayOf_alike hZ.alike Ar5.2.1) Ar5.2.2 hin6 hat6 (g := (mkF m 21 #[.val (.ref a1), .val (.long q2), .second] [(.int (1 : Int32)), (.ref a1)])) rfl rfl (hb hby d22_21) _ ?_
          refine XS.lloadN X0.here hx rfl (hb hby d22_22) rfl ?_
          refine XS.lcmp X0.here hx rfl (hb hby d22_23) rfl ?_
          refine XS.ifNo X0.here hx rfl (hb hby d22_24) rfl ((if0 _ _).trans (feq (own_lcne hc24)).1) ?_
          refine XS.aloadN X0.here hx rfl (hb hby d22_27) rfl rfl ?_
          refine X0.arraylength hx (by rw [e0]; exact Ar7.1) (State.isArrayOf_alike hZ.alike Ar7.2.1) (g := (mkF m 28 #[.val (.ref a1), .val (.long q2), .second] [(.ref a1)])) rfl rfl (hb hby d22_28) _ ?_
          rw [len_of Sz7 Nn7]
          show Steps p.tables e below (s₁.setTop (mkF m 29 #[.val (.ref a1), .val (.long q2), .second] [(.int (3 : Int32))])) _
          refine XS.iconst X0.here hx rfl (hb hby d22_29) ?_
          refine XS.icmpNo X0.here hx rfl (hb hby d22_30) rfl (tlt (by decide)).2.2.2 ?_
          refine XS.aloadN X0.here hx rfl (hb hby d22_33) rfl rfl ?_
          refine XS.iconst X0.here hx rfl (hb hby d22_34) ?_
          refine X0.laload hx (j := (2 : Int32)) (v := (.long y2)) (by rw [e0]; exact Ar8.1) (State.isArrayOf_alike hZ.alike Ar8.2.1) Ar8.2.2 hin9 hat9 (g := (mkF m 35 #[.val (.ref a1), .val (.long q2), .second] [(.int (2 : Int32)), (.ref a1)])) rfl rfl (hb hby d22_35) _ ?_
          refine XS.lloadN X0.here hx rfl (hb hby d22_36) rfl ?_
          refine XS.lcmp X0.here hx rfl (hb hby d22_37) rfl ?_
          refine XS.ifNo X0.here hx rfl (hb hby d22_38) rfl ((if0 _ _).trans (teq (own_lceq hc38)).2) ?_
          refine XS.iconst X0.here hx rfl (hb hby d22_41) ?_
          refine XS.goto X0.here hx rfl (pc0 := 42) (pc' := 46) rfl (hb hby d22_42) (by decide) (by decide) ?_
          show Steps p.tables e below (s₁.setTop (mkF m 46 #[.val (.ref a1), .val (.long q2), .second] [(.int (1 : Int32))])) _
          exact retN X0 hx (t := .boolean) Bd.returns (by simp) (hb hby d22_46) hr
        · show Qrmin3 Z a1 q2 k y0 y1 y2 h0 n0 _ s₁.heap _
          exact ⟨_, by simp [own_fits, own_part, own_mem, *], rfl, N0, e0⟩
      · obtain ⟨fs, hr, hrun, hended, hW, hsame⟩ := X0.leave (v := some (.int (0 : Int32))) (fun h => by rw [Bd.returns] at h; cases h) (BodyLoose.notSynchronized Bd)
        refine ⟨_, _, pre0 _ ?_, hrun, hended, _, _, rfl, ?_, ⟨_, rfl⟩, hW, hsame.mono (by decide) (by decide)⟩
        · show Steps p.tables e below (s₁.setTop (mkF m 0 #[.val (.ref a1), .val (.long q2), .second] [])) _
          refine XS.aloadN X0.here hx rfl (hb hby d22_0) rfl rfl ?_
          refine X0.arraylength hx (by rw [e0]; exact Ar1.1) (State.isArrayOf_alike hZ.alike Ar1.2.1) (g := (mkF m 1 #[.val (.ref a1), .val (.long q2), .second] [(.ref a1)])) rfl rfl (hb hby d22_1) _ ?_
          rw [len_of Sz1 Nn1]
          show Steps p.tables e below (s₁.setTop (mkF m 2 #[.val (.ref a1), .val (.long q2), .second] [(.int (3 : Int32))])) _
          refine XS.ifNo X0.here hx rfl (hb hby d22_2) rfl ((if0 _ _).trans (tlt (by decide)).2.2.2) ?_
          refine XS.aloadN X0.here hx rfl (hb hby d22_5) rfl rfl ?_
          refine XS.iconst X0.here hx rfl (hb hby d22_6) ?_
          refine X0.laload hx (j := (0 : Int32)) (v := (.long y0)) (by rw [e0]; exact Ar2.1) (State.isArrayOf_alike hZ.alike Ar2.2.1) Ar2.2.2 hin3 hat3 (g := (mkF m 7 #[.val (.ref a1), .val (.long q2), .second] [(.int (0 : Int32)), (.ref a1)])) rfl rfl (hb hby d22_7) _ ?_
          refine XS.lloadN X0.here hx rfl (hb hby d22_8) rfl ?_
          refine XS.lcmp X0.here hx rfl (hb hby d22_9) rfl ?_
          refine XS.ifNo X0.here hx rfl (hb hby d22_10) rfl ((if0 _ _).trans (feq (own_lcne hc10)).1) ?_
          refine XS.aloadN X0.here hx rfl (hb hby d22_13) rfl rfl ?_
          refine X0.arraylength hx (by rw [e0]; exact Ar4.1) (State.isArrayOf_alike hZ.alike Ar4.2.1) (g := (mkF m 14 #[.val (.ref a1), .val (.long q2), .second] [(.ref a1)])) rfl rfl (hb hby d22_14) _ ?_
          rw [len_of Sz4 Nn4]
          show Steps p.tables e below (s₁.setTop (mkF m 15 #[.val (.ref a1), .val (.long q2), .second] [(.int (3 : Int32))])) _
          refine XS.iconst X0.here hx rfl (hb hby d22_15) ?_
          refine XS.icmpNo X0.here hx rfl (hb hby d22_16) rfl (tlt (by decide)).2.2.2 ?_
          refine XS.aloadN X0.here hx rfl (hb hby d22_19) rfl rfl ?_
          refine XS.iconst X0.here hx rfl (hb hby d22_20) ?_
          refine X0.laload hx (j := (1 : Int32)) (v := (.long y1)) (by rw [e0]; exact Ar5.1) (State.isArrayOf_alike hZ.alike Ar5.2.1) Ar5.2.2 hin6 hat6 (g := (mkF m 21 #[.val (.ref a1), .val (.long q2), .second] [(.int (1 : Int32)), (.ref a1)])) rfl rfl (hb hby d22_21) _ ?_
          refine XS.lloadN X0.here hx rfl (hb hby d22_22) rfl ?_
          refine XS.lcmp X0.here hx rfl (hb hby d22_23) rfl ?_
          refine XS.ifNo X0.here hx rfl (hb hby d22_24) rfl ((if0 _ _).trans (feq (own_lcne hc24)).1) ?_
          refine XS.aloadN X0.here hx rfl (hb hby d22_27) rfl rfl ?_
          refine X0.arraylength hx (by rw [e0]; exact Ar7.1) (State.isArrayOf_alike hZ.alike Ar7.2.1) (g := (mkF m 28 #[.val (.ref a1), .val (.long q2), .second] [(.ref a1)])) rfl rfl (hb hby d22_28) _ ?_
          rw [len_of Sz7 Nn7]
          show Steps p.tables e below (s₁.setTop (mkF m 29 #[.val (.ref a1), .val (.long q2), .second] [(.int (3 : Int32))])) _
          refine XS.iconst X0.here hx rfl (hb hby d22_29) ?_
          refine XS.icmpNo X0.here hx rfl (hb hby d22_30) rfl (tlt (by decide)).2.2.2 ?_
          refine XS.aloadN X0.here hx rfl (hb hby d22_33) rfl rfl ?_
          refine XS.iconst X0.here hx rfl (hb hby d22_34) ?_
          refine X0.laload hx (j := (2 : Int32)) (v := (.long y2)) (by rw [e0]; exact Ar8.1) (State.isArrayOf_alike hZ.alike Ar8.2.1) Ar8.2.2 hin9 hat9 (g := (mkF m 35 #[.val (.ref a1), .val (.long q2), .second] [(.int (2 : Int32)), (.ref a1)])) rfl rfl (hb hby d22_35) _ ?_
          refine XS.lloadN X0.here hx rfl (hb hby d22_36) rfl ?_
          refine XS.lcmp X0.here hx rfl (hb hby d22_37) rfl ?_
          refine XS.ifYes X0.here hx rfl (pc0 := 38) (pc' := 45) rfl (hb hby d22_38) rfl ((if0 _ _).trans (feq (own_lcne hc38)).2) (by decide) (by decide) ?_
          refine XS.iconst X0.here hx rfl (hb hby d22_45) ?_
          show Steps p.tables e below (s₁.setTop (mkF m 46 #[.val (.ref a1), .val (.long q2), .second] [(.int (0 : Int32))])) _
          exact retN X0 hx (t := .boolean) Bd.returns (by simp) (hb hby d22_46) hr
        · show Qrmin3 Z a1 q2 k y0 y1 y2 h0 n0 _ s₁.heap _
          exact ⟨_, by simp [own_fits, own_part, own_mem, *], rfl, N0, e0⟩
theorem pd_11 : parseMethodDescriptor "(JJJZJJZJJ)J" = some ⟨[.long, .long, .long, .boolean, .long, .long, .boolean, .long, .long], some .long⟩ := by decide +kernel
theorem pd_12 : parseMethodDescriptor "()[J" = some ⟨[], some (.array .long)⟩ := by decide +kernel
theorem pd_13 : parseMethodDescriptor "(JJZJZJ)Z" = some ⟨[.long, .long, .boolean, .long, .boolean, .long], some .boolean⟩ := by decide +kernel
theorem pd_14 : parseMethodDescriptor "([JJ)Z" = some ⟨[(.array .long), .long], some .boolean⟩ := by decide +kernel
theorem own_one {K W : Nat → Int64} {n : Nat} {hs : Int64 → Nat} {D : Int64 → Prop} {mm : Int64 → Int64} {a b c x : Int64} {d2 d3 : Int32} (R : own_Rep K W n hs D mm 1) (HD : ∀ x, D x ↔ (x = a ∨ (¬ d2 = (0 : Int32) ∧ x = b) ∨ (¬ d3 = (0 : Int32) ∧ x = c))) (w : x = a ∨ (¬ d2 = (0 : Int32) ∧ x = b) ∨ (¬ d3 = (0 : Int32) ∧ x = c)) : x = a := by
  have dk := own_dom_ks R
  obtain ⟨y, hy⟩ := own_l1 dk.2.2
  have h1 := (dk.1 x).mp ((HD x).mpr w)
  have h2 := (dk.1 a).mp ((HD a).mpr (Or.inl rfl))
  rw [hy, List.mem_singleton] at h1 h2
  rw [h1, h2]
set_option maxRecDepth 65536 in
set_option maxHeartbeats 40000000 in
theorem own_tail {p : Program} {l : Launch} {e : Env} {s : State} {m : MethodId} {below : List Frame} {meth : Method} {c : Code} {T0 : State} {L0 : List Loc} {Z : State} {a0 : Array Value} {h0 : Heap} {n0 : Nat} {q1 q2 q3 q4 q5 q6 ka kb kc kd s3 : Int64} {d2 d3 : Int32} {t f a : Addr} {k fk : ClassId} {arr : List Int64} {n : Nat} {sh : Int32} {D : Int64 → Prop} {M : Int64 → Int64} {sz : Nat} {so : Value} (hx : p.tables.exec = Jvm.exec) (hZ : Z.Warmed39 s.vm) (hw : ∀ d ∈ tables_1, d.before a0 Z = true) (hby : c.code = code) (hml : c.maxLocals = 28) (hown : s.vm.findClass "com/example/pricewright/pricewright/core/LongSumTableAddPinLaw" = some m.cls) (X0 : Stand p l e room_1 s m #[.long q1, .long q2, .long q3, .long q4, .long q5, .long q6] below meth c T0 L0 10 80) (e0 : T0.heap = h0) (N0 : Fr n0 L0) (Z0 : n0 ≤ h0.size) (hn : (n = 4 ∧ sh = 62) ∨ (n = 8 ∧ sh = 61)) (E : Exa Z h0 t "com/example/pricewright/pricewright/core/LongSumTable") (FS : Fld Z h0 t "com/example/pricewright/pricewright/core/LongSumTable" "slots" "[J" (.ref a)) (FH : Fld Z h0 t "com/example/pricewright/pricewright/core/LongSumTable" "shift" "I" (.int sh)) (FZ : Fld Z h0 t "com/example/pricewright/pricewright/core/LongSumTable" "size" "I" (.int (Int32.ofNat sz))) (FQ : Fld Z h0 t "com/example/pricewright/pricewright/core/LongSumTable" "sorted" "[J" so) (AV : Arv Z h0 a k .long (Int32.ofNat (2 * n)) (arr.map Value.long) (.long (0 : Int64))) (AF : Arv Z h0 f fk .long (1 : Int32) [.long ka] (.long (0 : Int64))) (gt : n0 ≤ t) (hta : t ≠ a) (hft : f ≠ t) (hfa : f ≠ a) (hfr : ∃ j, j < n ∧ own_K arr j = own_FREE) (Rp : own_Rep (own_K arr) (own_W arr) n (own_hs n) D M sz) (h1 : ¬ ka = (-9223372036854775808 : Int64)) (h2 : ¬ kb = (-9223372036854775808 : Int64)) (h3 : ¬ kc = (-9223372036854775808 : Int64)) (h4 : ¬ kd = (-9223372036854775808 : Int64)) (HX : ∀ x, own_exp x ka q4 d2 kb q5 d3 kc q6 = M x) (HD : ∀ x, D x ↔ (x = ka ∨ (¬ d2 = (0 : Int32) ∧ x = kb) ∨ (¬ d3 = (0 : Int32) ∧ x = kc))) (Hs : (n = 4 ∧ sz = 1 ∧ so = .ref f) ∨ (n = 4 ∧ sz = 2 ∧ so = .null) ∨ (n = 8 ∧ sz = 3 ∧ so = .null)) (Hn : (((1 : Int32) + (if d2 = (0 : Int32) then (0 : Int32) else (if kb = ka then (0 : Int32) else (1 : Int32)))) + (if d3 = (0 : Int32) then (0 : Int32) else (if kc = ka then (0 : Int32) else (if d2 = (0 : Int32) then (1 : Int32) else (if kc = kb then (0 : Int32) else (1 : Int32)))))) = Int32.ofNat sz) :
    ∃ (T' : State) (L' : List Loc) (Ls : Array Slot), Stand p l e room_1 s m #[.long q1, .long q2, .long q3, .long q4, .long q5, .long q6] below meth c T' L' 11 83 ∧ Fr n0 L' ∧ ∀ target, Steps p.tables e below (T'.setTop (mkF m 543 Ls [.int (1 : Int32)])) target → Steps p.tables e below (T0.setTop (mkF m 171 #[.val (.long q1), .second, .val (.long q2), .second, .val (.long q3), .second, .val (.long q4), .second, .val (.long q5), .second, .val (.long q6), .second, .val (.long ka), .second, .val (.long kb), .second, .val (.long kc), .second, .val (.long kd), .second, .val (.ref t), .val (.ref f), .val (.int d2), .val (.long s3), .second, .val (.int d3), .unset, .unset] [])) target := by
  obtain ⟨cq1, kz1, q1a, q1b, q1c⟩ := isOf hZ e0 E
  obtain ⟨_, _, ⟨T1, Lq1, kq1, nq1⟩, -, X1, ⟨Lc1, hQ1, lq1, yq1, zq1⟩, st1⟩ := X0.virtualBack hx (y := (⟨"com/example/pricewright/pricewright/core/LongSumTable", "get", "(J)J"⟩ : MethodName)) (z := (⟨"com/example/pricewright/pricewright/core/LongSumTable", "get", "(J)J"⟩ : MethodName)) hown (mvT hZ (hw _ (own_w 81 rfl))) (mvT hZ (hw _ (own_w 82 rfl))) (notFace_of_selects (args := #[]) (mvT hZ (hw _ (own_w 84 rfl)))) (mvT hZ (hw _ (own_w 84 rfl))) (mvT hZ (hw _ (own_w 83 rfl))) (by decide) (backOf (W := 0) (rmG l Z a0 hw [] t ka a k (arr) n sh h0 n0 Z0 hn E FS FH AV hfr) hZ (hw _ (own_w 85 rfl)) (hw _ (own_w 7 rfl)) (by decide) (by decide)) q1a q1c (g := (mkF m 175 #[.val (.long q1), .second, .val (.long q2), .second, .val (.long q3), .second, .val (.long q4), .second, .val (.long q5), .second, .val (.long q6), .second, .val (.long ka), .second, .val (.long kb), .second, .val (.long kc), .second, .val (.long kd), .second, .val (.ref t), .val (.ref f), .val (.int d2), .val (.long s3), .second, .val (.int d3), .unset, .unset] [(.long ka), (.ref t)])) rfl (by rw [hml]; rfl) (Steps.refl _) (argsL := [(.long ka)]) (rest := []) (lenOf pd_4 rfl) rfl (by show 2 * 0 + _ ≤ _; exact Nat.le_of_eq rfl) (hb hby at_175) (fun _ _ => ⟨rfl, e0, (by decide : 10 + 0 ≤ _), (by decide : 80 + 0 ≤ _)⟩)
  dsimp only [Pt.U, Pt.locs, Pt.cells, Pt.slots] at X1 lq1 yq1 zq1 st1 hQ1
  subst lq1 yq1 zq1
  obtain ⟨r1, hr1, rfl, N1q, e1⟩ := hQ1
  have N1 := Fr.app N0 N1q
  obtain ⟨ig1, hig1, Pg1, hv1⟩ := hr1
  have hg1 : r1 = M ka := by rw [hv1]; exact own_rep_get Rp hig1 h1 Pg1
  obtain ⟨_, _, ⟨T2, Lq2, kq2, nq2⟩, -, X2, ⟨Lc2, hQ2, lq2, yq2, zq2⟩, st2⟩ := Jvm.LawKit.callS X1 hx (y := (⟨"com/example/pricewright/pricewright/core/LongSumTableAddPinLaw", "exp", "(JJJZJJZJJ)J"⟩ : MethodName)) hown (mvT hZ (hw _ (own_w 86 rfl))) (mvT hZ (hw _ (own_w 87 rfl))) (mvT hZ (hw _ (own_w 2 rfl))) (mvT hZ (hw _ (own_w 88 rfl))) (by decide) (backOf (W := 2) (rmx l Z a0 hw [] ka ka q4 d2 kb q5 d3 kc q6  h0 n0 Z0 ) hZ (hw _ (own_w 88 rfl)) (hw _ (own_w 2 rfl)) (by decide) (by decide)) (g := (mkF m 196 #[.val (.long q1), .second, .val (.long q2), .second, .val (.long q3), .second, .val (.long q4), .second, .val (.long q5), .second, .val (.long q6), .second, .val (.long ka), .second, .val (.long kb), .second, .val (.long kc), .second, .val (.long kd), .second, .val (.ref t), .val (.ref f), .val (.int d2), .val (.long s3), .second, .val (.int d3), .unset, .unset] [(.long q6), (.long kc), (.int d3), (.long q5), (.long kb), (.int d2), (.long q4), (.long ka), (.long ka), (.long r1)])) rfl (by rw [hml]; rfl) (argsL := [(.long ka), (.long ka), (.long q4), (.int d2), (.long kb), (.long q5), (.int d3), (.long kc), (.long q6)]) (rest := [(.long r1)]) (lenOf pd_11 rfl) rfl (by show 2 * 0 + _ ≤ _; exact Nat.le_of_eq rfl) (hb hby at_196) (fun _ _ => ⟨rfl, e1, (by decide : 10 + 0 ≤ _), (by decide : 80 + 0 ≤ _)⟩)
  dsimp only [Pt.U, Pt.locs, Pt.cells, Pt.slots] at X2 lq2 yq2 zq2 st2 hQ2
  subst lq2 yq2 zq2
  obtain ⟨r2, hr2, rfl, N2q, e2⟩ := hQ2
  have N2 := Fr.app N1 N2q
  obtain ⟨cq3, kz3, q3a, q3b, q3c⟩ := isOf hZ e2 E
  obtain ⟨_, _, ⟨T3, Lq3, kq3, nq3⟩, -, X3, ⟨Lc3, hQ3, lq3, yq3, zq3⟩, st3⟩ := X2.virtualBack hx (y := (⟨"com/example/pricewright/pricewright/core/LongSumTable", "get", "(J)J"⟩ : MethodName)) (z := (⟨"com/example/pricewright/pricewright/core/LongSumTable", "get", "(J)J"⟩ : MethodName)) hown (mvT hZ (hw _ (own_w 81 rfl))) (mvT hZ (hw _ (own_w 82 rfl))) (notFace_of_selects (args := #[]) (mvT hZ (hw _ (own_w 84 rfl)))) (mvT hZ (hw _ (own_w 84 rfl))) (mvT hZ (hw _ (own_w 83 rfl))) (by decide) (backOf (W := 0) (rmG l Z a0 hw [] t kb a k (arr) n sh h0 n0 Z0 hn E FS FH AV hfr) hZ (hw _ (own_w 85 rfl)) (hw _ (own_w 7 rfl)) (by decide) (by decide)) q3a q3c (g := (mkF m 209 #[.val (.long q1), .second, .val (.long q2), .second, .val (.long q3), .second, .val (.long q4), .second, .val (.long q5), .second, .val (.long q6), .second, .val (.long ka), .second, .val (.long kb), .second, .val (.long kc), .second, .val (.long kd), .second, .val (.ref t), .val (.ref f), .val (.int d2), .val (.long s3), .second, .val (.int d3), .unset, .unset] [(.long kb), (.ref t)])) rfl (by rw [hml]; rfl) (Steps.refl _) (argsL := [(.long kb)]) (rest := []) (lenOf pd_4 rfl) rfl (by show 2 * 0 + _ ≤ _; exact Nat.le_of_eq rfl) (hb hby at_209) (fun _ _ => ⟨rfl, e2, (by decide : 10 + 0 ≤ _), (by decide : 80 + 0 ≤ _)⟩)
  dsimp only [Pt.U, Pt.locs, Pt.cells, Pt.slots] at X3 lq3 yq3 zq3 st3 hQ3
  subst lq3 yq3 zq3
  obtain ⟨r3, hr3, rfl, N3q, e3⟩ := hQ3
  have N3 := Fr.app N2 N3q
  obtain ⟨ig3, hig3, Pg3, hv3⟩ := hr3
  have hg3 : r3 = M kb := by rw [hv3]; exact own_rep_get Rp hig3 h2 Pg3
  obtain ⟨_, _, ⟨T4, Lq4, kq4, nq4⟩, -, X4, ⟨Lc4, hQ4, lq4, yq4, zq4⟩, st4⟩ := Jvm.LawKit.callS X3 hx (y := (⟨"com/example/pricewright/pricewright/core/LongSumTableAddPinLaw", "exp", "(JJJZJJZJJ)J"⟩ : MethodName)) hown (mvT hZ (hw _ (own_w 86 rfl))) (mvT hZ (hw _ (own_w 87 rfl))) (mvT hZ (hw _ (own_w 2 rfl))) (mvT hZ (hw _ (own_w 88 rfl))) (by decide) (backOf (W := 2) (rmx l Z a0 hw [] kb ka q4 d2 kb q5 d3 kc q6  h0 n0 Z0 ) hZ (hw _ (own_w 88 rfl)) (hw _ (own_w 2 rfl)) (by decide) (by decide)) (g := (mkF m 230 #[.val (.long q1), .second, .val (.long q2), .second, .val (.long q3), .second, .val (.long q4), .second, .val (.long q5), .second, .val (.long q6), .second, .val (.long ka), .second, .val (.long kb), .second, .val (.long kc), .second, .val (.long kd), .second, .val (.ref t), .val (.ref f), .val (.int d2), .val (.long s3), .second, .val (.int d3), .unset, .unset] [(.long q6), (.long kc), (.int d3), (.long q5), (.long kb), (.int d2), (.long q4), (.long ka), (.long kb), (.long r3)])) rfl (by rw [hml]; rfl) (argsL := [(.long kb), (.long ka), (.long q4), (.int d2), (.long kb), (.long q5), (.int d3), (.long kc), (.long q6)]) (rest := [(.long r3)]) (lenOf pd_11 rfl) rfl (by show 2 * 0 + _ ≤ _; exact Nat.le_of_eq rfl) (hb hby at_230) (fun _ _ => ⟨rfl, e3, (by decide : 10 + 0 ≤ _), (by decide : 80 + 0 ≤ _)⟩)
  dsimp only [Pt.U, Pt.locs, Pt.cells, Pt.slots] at X4 lq4 yq4 zq4 st4 hQ4
  subst lq4 yq4 zq4
  obtain ⟨r4, hr4, rfl, N4q, e4⟩ := hQ4
  have N4 := Fr.app N3 N4q
  obtain ⟨cq5, kz5, q5a, q5b, q5c⟩ := isOf hZ e4 E
  obtain ⟨_, _, ⟨T5, Lq5, kq5, nq5⟩, -, X5, ⟨Lc5, hQ5, lq5, yq5, zq5⟩, st5⟩ := X4.virtualBack hx (y := (⟨"com/example/pricewright/pricewright/core/LongSumTable", "get", "(J)J"⟩ : MethodName)) (z := (⟨"com/example/pricewright/pricewright/core/LongSumTable", "get", "(J)J"⟩ : MethodName)) hown (mvT hZ (hw _ (own_w 81 rfl))) (mvT hZ (hw _ (own_w 82 rfl))) (notFace_of_selects (args := #[]) (mvT hZ (hw _ (own_w 84 rfl)))) (mvT hZ (hw _ (own_w 84 rfl))) (mvT hZ (hw _ (own_w 83 rfl))) (by decide) (backOf (W := 0) (rmG l Z a0 hw [] t kc a k (arr) n sh h0 n0 Z0 hn E FS FH AV hfr) hZ (hw _ (own_w 85 rfl)) (hw _ (own_w 7 rfl)) (by decide) (by decide)) q5a q5c (g := (mkF m 243 #[.val (.long q1), .second, .val (.long q2), .second, .val (.long q3), .second, .val (.long q4), .second, .val (.long q5), .second, .val (.long q6), .second, .val (.long ka), .second, .val (.long kb), .second, .val (.long kc), .second, .val (.long kd), .second, .val (.ref t), .val (.ref f), .val (.int d2), .val (.long s3), .second, .val (.int d3), .unset, .unset] [(.long kc), (.ref t)])) rfl (by rw [hml]; rfl) (Steps.refl _) (argsL := [(.long kc)]) (rest := []) (lenOf pd_4 rfl) rfl (by show 2 * 0 + _ ≤ _; exact Nat.le_of_eq rfl) (hb hby at_243) (fun _ _ => ⟨rfl, e4, (by decide : 10 + 0 ≤ _), (by decide : 80 + 0 ≤ _)⟩)
  dsimp only [Pt.U, Pt.locs, Pt.cells, Pt.slots] at X5 lq5 yq5 zq5 st5 hQ5
  subst lq5 yq5 zq5
  obtain ⟨r5, hr5, rfl, N5q, e5⟩ := hQ5
  have N5 := Fr.app N4 N5q
  obtain ⟨ig5, hig5, Pg5, hv5⟩ := hr5
  have hg5 : r5 = M kc := by rw [hv5]; exact own_rep_get Rp hig5 h3 Pg5
  obtain ⟨_, _, ⟨T6, Lq6, kq6, nq6⟩, -, X6, ⟨Lc6, hQ6, lq6, yq6, zq6⟩, st6⟩ := Jvm.LawKit.callS X5 hx (y := (⟨"com/example/pricewright/pricewright/core/LongSumTableAddPinLaw", "exp", "(JJJZJJZJJ)J"⟩ : MethodName)) hown (mvT hZ (hw _ (own_w 86 rfl))) (mvT hZ (hw _ (own_w 87 rfl))) (mvT hZ (hw _ (own_w 2 rfl))) (mvT hZ (hw _ (own_w 88 rfl))) (by decide) (backOf (W := 2) (rmx l Z a0 hw [] kc ka q4 d2 kb q5 d3 kc q6  h0 n0 Z0 ) hZ (hw _ (own_w 88 rfl)) (hw _ (own_w 2 rfl)) (by decide) (by decide)) (g := (mkF m 264 #[.val (.long q1), .second, .val (.long q2), .second, .val (.long q3), .second, .val (.long q4), .second, .val (.long q5), .second, .val (.long q6), .second, .val (.long ka), .second, .val (.long kb), .second, .val (.long kc), .second, .val (.long kd), .second, .val (.ref t), .val (.ref f), .val (.int d2), .val (.long s3), .second, .val (.int d3), .unset, .unset] [(.long q6), (.long kc), (.int d3), (.long q5), (.long kb), (.int d2), (.long q4), (.long ka), (.long kc), (.long r5)])) rfl (by rw [hml]; rfl) (argsL := [(.long kc), (.long ka), (.long q4), (.int d2), (.long kb), (.long q5), (.int d3), (.long kc), (.long q6)]) (rest := [(.long r5)]) (lenOf pd_11 rfl) rfl (by show 2 * 0 + _ ≤ _; exact Nat.le_of_eq rfl) (hb hby at_264) (fun _ _ => ⟨rfl, e5, (by decide : 10 + 0 ≤ _), (by decide : 80 + 0 ≤ _)⟩)
  dsimp only [Pt.U, Pt.locs, Pt.cells, Pt.slots] at X6 lq6 yq6 zq6 st6 hQ6
  subst lq6 yq6 zq6
  obtain ⟨r6, hr6, rfl, N6q, e6⟩ := hQ6
  have N6 := Fr.app N5 N6q
  obtain ⟨cq7, kz7, q7a, q7b, q7c⟩ := isOf hZ e6 E
  obtain ⟨_, _, ⟨T7, Lq7, kq7, nq7⟩, -, X7, ⟨Lc7, hQ7, lq7, yq7, zq7⟩, st7⟩ := X6.virtualBack hx (y := (⟨"com/example/pricewright/pricewright/core/LongSumTable", "get", "(J)J"⟩ : MethodName)) (z := (⟨"com/example/pricewright/pricewright/core/LongSumTable", "get", "(J)J"⟩ : MethodName)) hown (mvT hZ (hw _ (own_w 81 rfl))) (mvT hZ (hw _ (own_w 82 rfl))) (notFace_of_selects (args := #[]) (mvT hZ (hw _ (own_w 84 rfl)))) (mvT hZ (hw _ (own_w 84 rfl))) (mvT hZ (hw _ (own_w 83 rfl))) (by decide) (backOf (W := 0) (rmG l Z a0 hw [] t kd a k (arr) n sh h0 n0 Z0 hn E FS FH AV hfr) hZ (hw _ (own_w 85 rfl)) (hw _ (own_w 7 rfl)) (by decide) (by decide)) q7a q7c (g := (mkF m 277 #[.val (.long q1), .second, .val (.long q2), .second, .val (.long q3), .second, .val (.long q4), .second, .val (.long q5), .second, .val (.long q6), .second, .val (.long ka), .second, .val (.long kb), .second, .val (.long kc), .second, .val (.long kd), .second, .val (.ref t), .val (.ref f), .val (.int d2), .val (.long s3), .second, .val (.int d3), .unset, .unset] [(.long kd), (.ref t)])) rfl (by rw [hml]; rfl) (Steps.refl _) (argsL := [(.long kd)]) (rest := []) (lenOf pd_4 rfl) rfl (by show 2 * 0 + _ ≤ _; exact Nat.le_of_eq rfl) (hb hby at_277) (fun _ _ => ⟨rfl, e6, (by decide : 10 + 0 ≤ _), (by decide : 80 + 0 ≤ _)⟩)
  dsimp only [Pt.U, Pt.locs, Pt.cells, Pt.slots] at X7 lq7 yq7 zq7 st7 hQ7
  subst lq7 yq7 zq7
  obtain ⟨r7, hr7, rfl, N7q, e7⟩ := hQ7
  have N7 := Fr.app N6 N7q
  obtain ⟨ig7, hig7, Pg7, hv7⟩ := hr7
  have hg7 : r7 = M kd := by rw [hv7]; exact own_rep_get Rp hig7 h4 Pg7
  obtain ⟨_, _, ⟨T8, Lq8, kq8, nq8⟩, -, X8, ⟨Lc8, hQ8, lq8, yq8, zq8⟩, st8⟩ := Jvm.LawKit.callS X7 hx (y := (⟨"com/example/pricewright/pricewright/core/LongSumTableAddPinLaw", "exp", "(JJJZJJZJJ)J"⟩ : MethodName)) hown (mvT hZ (hw _ (own_w 86 rfl))) (mvT hZ (hw _ (own_w 87 rfl))) (mvT hZ (hw _ (own_w 2 rfl))) (mvT hZ (hw _ (own_w 88 rfl))) (by decide) (backOf (W := 2) (rmx l Z a0 hw [] kd ka q4 d2 kb q5 d3 kc q6  h0 n0 Z0 ) hZ (hw _ (own_w 88 rfl)) (hw _ (own_w 2 rfl)) (by decide) (by decide)) (g := (mkF m 298 #[.val (.long q1), .second, .val (.long q2), .second, .val (.long q3), .second, .val (.long q4), .second, .val (.long q5), .second, .val (.long q6), .second, .val (.long ka), .second, .val (.long kb), .second, .val (.long kc), .second, .val (.long kd), .second, .val (.ref t), .val (.ref f), .val (.int d2), .val (.long s3), .second, .val (.int d3), .unset, .unset] [(.long q6), (.long kc), (.int d3), (.long q5), (.long kb), (.int d2), (.long q4), (.long ka), (.long kd), (.long r7)])) rfl (by rw [hml]; rfl) (argsL := [(.long kd), (.long ka), (.long q4), (.int d2), (.long kb), (.long q5), (.int d3), (.long kc), (.long q6)]) (rest := [(.long r7)]) (lenOf pd_11 rfl) rfl (by show 2 * 0 + _ ≤ _; exact Nat.le_of_eq rfl) (hb hby at_298) (fun _ _ => ⟨rfl, e7, (by decide : 10 + 0 ≤ _), (by decide : 80 + 0 ≤ _)⟩)
  dsimp only [Pt.U, Pt.locs, Pt.cells, Pt.slots] at X8 lq8 yq8 zq8 st8 hQ8
  subst lq8 yq8 zq8
  obtain ⟨r8, hr8, rfl, N8q, e8⟩ := hQ8
  have N8 := Fr.app N7 N8q
  rcases Hs with ⟨rfl, rfl, rfl⟩ | ⟨rfl, rfl, rfl⟩ | ⟨rfl, rfl, rfl⟩
  · obtain rfl := own_sh62 hn
    obtain ⟨cq9, kz9, q9a, q9b, q9c⟩ := isOf hZ e8 E
    obtain ⟨_, _, ⟨T9, Lq9, kq9, nq9⟩, -, X9, ⟨Lc9, hQ9, lq9, yq9, zq9⟩, st9⟩ := X8.virtualBack hx (y := (⟨"com/example/pricewright/pricewright/core/LongSumTable", "sortedKeys", "()[J"⟩ : MethodName)) (z := (⟨"com/example/pricewright/pricewright/core/LongSumTable", "sortedKeys", "()[J"⟩ : MethodName)) hown (mvT hZ (hw _ (own_w 49 rfl))) (mvT hZ (hw _ (own_w 50 rfl))) (notFace_of_selects (args := #[]) (mvT hZ (hw _ (own_w 52 rfl)))) (mvT hZ (hw _ (own_w 52 rfl))) (mvT hZ (hw _ (own_w 51 rfl))) (by decide) (backOf (W := 0) (rmKc l Z a0 hw [] t f h0 n0 Z0 FQ) hZ (hw _ (own_w 53 rfl)) (hw _ (own_w 7 rfl)) (by decide) (by decide)) q9a q9c (g := (mkF m 309 #[.val (.long q1), .second, .val (.long q2), .second, .val (.long q3), .second, .val (.long q4), .second, .val (.long q5), .second, .val (.long q6), .second, .val (.long ka), .second, .val (.long kb), .second, .val (.long kc), .second, .val (.long kd), .second, .val (.ref t), .val (.ref f), .val (.int d2), .val (.long s3), .second, .val (.int d3), .unset, .unset] [(.ref t)])) rfl (by rw [hml]; rfl) (Steps.refl _) (argsL := []) (rest := []) (lenOf pd_12 rfl) rfl (by show 2 * 0 + _ ≤ _; exact Nat.le_of_eq rfl) (hb hby at_309) (fun _ _ => ⟨rfl, e8, (by decide : 10 + 0 ≤ _), (by decide : 80 + 0 ≤ _)⟩)
    dsimp only [Pt.U, Pt.locs, Pt.cells, Pt.slots] at X9 lq9 yq9 zq9 st9 hQ9
    subst lq9 yq9 zq9
    obtain ⟨rfl, N9q, e9⟩ := hQ9
    have N9 := Fr.app N8 N9q
    obtain ⟨n1, hn1⟩ : ∃ z : Int32, z = (if d2 = (0 : Int32) then (0 : Int32) else (if kb = ka then (0 : Int32) else (1 : Int32))) := ⟨_, rfl⟩
    have sg10 : ∀ tg0, Steps p.tables e below (T9.setTop (mkF m 333 #[.val (.long q1), .second, .val (.long q2), .second, .val (.long q3), .second, .val (.long q4), .second, .val (.long q5), .second, .val (.long q6), .second, .val (.long ka), .second, .val (.long kb), .second, .val (.long kc), .second, .val (.long kd), .second, .val (.ref t), .val (.ref f), .val (.int d2), .val (.long s3), .second, .val (.int d3), .val (.ref f), .unset] [(.int n1), (.int (1 : Int32))])) tg0 → Steps p.tables e below (T9.setTop (mkF m 315 #[.val (.long q1), .second, .val (.long q2), .second, .val (.long q3), .second, .val (.long q4), .second, .val (.long q5), .second, .val (.long q6), .second, .val (.long ka), .second, .val (.long kb), .second, .val (.long kc), .second, .val (.long kd), .second, .val (.ref t), .val (.ref f), .val (.int d2), .val (.long s3), .second, .val (.int d3), .val (.ref f), .unset] [(.int (1 : Int32))])) tg0 := by
      intro tg0 kt
      by_cases hj10_317 : d2 = (0 : Int32)
      · rw [if_pos hj10_317] at hn1
        rw [hn1] at kt
        show Steps p.tables e below (T9.setTop (mkF m 315 #[.val (.long q1), .second, .val (.long q2), .second, .val (.long q3), .second, .val (.long q4), .second, .val (.long q5), .second, .val (.long q6), .second, .val (.long ka), .second, .val (.long kb), .second, .val (.long kc), .second, .val (.long kd), .second, .val (.ref t), .val (.ref f), .val (.int d2), .val (.long s3), .second, .val (.int d3), .val (.ref f), .unset] [(.int (1 : Int32))])) _
        refine XS.iload X9.here hx rfl (hb hby at_315) rfl ?_
        refine XS.ifYes X9.here hx rfl (pc0 := 317) (pc' := 332) rfl (hb hby at_317) rfl ((if0 _ _).trans (teq hj10_317).1) (by decide) (by decide) ?_
        refine XS.iconst X9.here hx rfl (hb hby at_332) ?_
        exact kt
      · by_cases hj10_325 : kb = ka
        · rw [if_neg hj10_317, if_pos hj10_325] at hn1
          rw [hn1] at kt
          show Steps p.tables e below (T9.setTop (mkF m 315 #[.val (.long q1), .second, .val (.long q2), .second, .val (.long q3), .second, .val (.long q4), .second, .val (.long q5), .second, .val (.long q6), .second, .val (.long ka), .second, .val (.long kb), .second, .val (.long kc), .second, .val (.long kd), .second, .val (.ref t), .val (.ref f), .val (.int d2), .val (.long s3), .second, .val (.int d3), .val (.ref f), .unset] [(.int (1 : Int32))])) _
          refine XS.iload X9.here hx rfl (hb hby at_315) rfl ?_
          refine XS.ifNo X9.here hx rfl (hb hby at_317) rfl ((if0 _ _).trans (feq hj10_317).1) ?_
          refine XS.lload X9.here hx rfl (hb hby at_320) rfl ?_
          refine XS.lload X9.here hx rfl (hb hby at_322) rfl ?_
          refine XS.lcmp X9.here hx rfl (hb hby at_324) rfl ?_
          refine XS.ifYes X9.here hx rfl (pc0 := 325) (pc' := 332) rfl (hb hby at_325) rfl ((if0 _ _).trans (teq (own_lceq hj10_325)).1) (by decide) (by decide) ?_
          refine XS.iconst X9.here hx rfl (hb hby at_332) ?_
          exact kt
        · rw [if_neg hj10_317, if_neg hj10_325] at hn1
          rw [hn1] at kt
          show Steps p.tables e below (T9.setTop (mkF m 315 #[.val (.long q1), .second, .val (.long q2), .second, .val (.long q3), .second, .val (.long q4), .second, .val (.long q5), .second, .val (.long q6), .second, .val (.long ka), .second, .val (.long kb), .second, .val (.long kc), .second, .val (.long kd), .second, .val (.ref t), .val (.ref f), .val (.int d2), .val (.long s3), .second, .val (.int d3), .val (.ref f), .unset] [(.int (1 : Int32))])) _
          refine XS.iload X9.here hx rfl (hb hby at_315) rfl ?_
          refine XS.ifNo X9.here hx rfl (hb hby at_317) rfl ((if0 _ _).trans (feq hj10_317).1) ?_
          refine XS.lload X9.here hx rfl (hb hby at_320) rfl ?_
          refine XS.lload X9.here hx rfl (hb hby at_322) rfl ?_
          refine XS.lcmp X9.here hx rfl (hb hby at_324) rfl ?_
          refine XS.ifNo X9.here hx rfl (hb hby at_325) rfl ((if0 _ _).trans (feq (own_lcne hj10_325)).1) ?_
          refine XS.iconst X9.here hx rfl (hb hby at_328) ?_
          refine XS.goto X9.here hx rfl (pc0 := 329) (pc' := 333) rfl (hb hby at_329) (by decide) (by decide) ?_
          exact kt
    obtain ⟨n2, hn2⟩ : ∃ z : Int32, z = (if d3 = (0 : Int32) then (0 : Int32) else (if kc = ka then (0 : Int32) else (if d2 = (0 : Int32) then (1 : Int32) else (if kc = kb then (0 : Int32) else (1 : Int32))))) := ⟨_, rfl⟩
    have sg11 : ∀ tg0, Steps p.tables e below (T9.setTop (mkF m 365 #[.val (.long q1), .second, .val (.long q2), .second, .val (.long q3), .second, .val (.long q4), .second, .val (.long q5), .second, .val (.long q6), .second, .val (.long ka), .second, .val (.long kb), .second, .val (.long kc), .second, .val (.long kd), .second, .val (.ref t), .val (.ref f), .val (.int d2), .val (.long s3), .second, .val (.int d3), .val (.ref f), .unset] [(.int n2), (.int ((1 : Int32) + n1))])) tg0 → Steps p.tables e below (T9.setTop (mkF m 334 #[.val (.long q1), .second, .val (.long q2), .second, .val (.long q3), .second, .val (.long q4), .second, .val (.long q5), .second, .val (.long q6), .second, .val (.long ka), .second, .val (.long kb), .second, .val (.long kc), .second, .val (.long kd), .second, .val (.ref t), .val (.ref f), .val (.int d2), .val (.long s3), .second, .val (.int d3), .val (.ref f), .unset] [(.int ((1 : Int32) + n1))])) tg0 := by
      intro tg0 kt
      by_cases hj11_336 : d3 = (0 : Int32)
      · rw [if_pos hj11_336] at hn2
        rw [hn2] at kt
        show Steps p.tables e below (T9.setTop (mkF m 334 #[.val (.long q1), .second, .val (.long q2), .second, .val (.long q3), .second, .val (.long q4), .second, .val (.long q5), .second, .val (.long q6), .second, .val (.long ka), .second, .val (.long kb), .second, .val (.long kc), .second, .val (.long kd), .second, .val (.ref t), .val (.ref f), .val (.int d2), .val (.long s3), .second, .val (.int d3), .val (.ref f), .unset] [(.int ((1 : Int32) + n1))])) _
        refine XS.iload X9.here hx rfl (hb hby at_334) rfl ?_
        refine XS.ifYes X9.here hx rfl (pc0 := 336) (pc' := 364) rfl (hb hby at_336) rfl ((if0 _ _).trans (teq hj11_336).1) (by decide) (by decide) ?_
        refine XS.iconst X9.here hx rfl (hb hby at_364) ?_
        exact kt
      · by_cases hj11_344 : kc = ka
        · rw [if_neg hj11_336, if_pos hj11_344] at hn2
          rw [hn2] at kt
          show Steps p.tables e below (T9.setTop (mkF m 334 #[.val (.long q1), .second, .val (.long q2), .second, .val (.long q3), .second, .val (.long q4), .second, .val (.long q5), .second, .val (.long q6), .second, .val (.long ka), .second, .val (.long kb), .second, .val (.long kc), .second, .val (.long kd), .second, .val (.ref t), .val (.ref f), .val (.int d2), .val (.long s3), .second, .val (.int d3), .val (.ref f), .unset] [(.int ((1 : Int32) + n1))])) _
          refine XS.iload X9.here hx rfl (hb hby at_334) rfl ?_
          refine XS.ifNo X9.here hx rfl (hb hby at_336) rfl ((if0 _ _).trans (feq hj11_336).1) ?_
          refine XS.lload X9.here hx rfl (hb hby at_339) rfl ?_
          refine XS.lload X9.here hx rfl (hb hby at_341) rfl ?_
          refine XS.lcmp X9.here hx rfl (hb hby at_343) rfl ?_
          refine XS.ifYes X9.here hx rfl (pc0 := 344) (pc' := 364) rfl (hb hby at_344) rfl ((if0 _ _).trans (teq (own_lceq hj11_344)).1) (by decide) (by decide) ?_
          refine XS.iconst X9.here hx rfl (hb hby at_364) ?_
          exact kt
        · by_cases hj11_349 : d2 = (0 : Int32)
          · rw [if_neg hj11_336, if_neg hj11_344, if_pos hj11_349] at hn2
            rw [hn2] at kt
            show Steps p.tables e below (T9.setTop (mkF m 334 #[.val (.long q1), .second, .val (.long q2), .second, .val (.long q3), .second, .val (.long q4), .second, .val (.long q5), .second, .val (.long q6), .second, .val (.long ka), .second, .val (.long kb), .second, .val (.long kc), .second, .val (.long kd), .second, .val (.ref t), .val (.ref f), .val (.int d2), .val (.long s3), .second, .val (.int d3), .val (.ref f), .unset] [(.int ((1 : Int32) + n1))])) _
            refine XS.iload X9.here hx rfl (hb hby at_334) rfl ?_
            refine XS.ifNo X9.here hx rfl (hb hby at_336) rfl ((if0 _ _).trans (feq hj11_336).1) ?_
            refine XS.lload X9.here hx rfl (hb hby at_339) rfl ?_
            refine XS.lload X9.here hx rfl (hb hby at_341) rfl ?_
            refine XS.lcmp X9.here hx rfl (hb hby at_343) rfl ?_
            refine XS.ifNo X9.here hx rfl (hb hby at_344) rfl ((if0 _ _).trans (feq (own_lcne hj11_344)).1) ?_
            refine XS.iload X9.here hx rfl (hb hby at_347) rfl ?_
            refine XS.ifYes X9.here hx rfl (pc0 := 349) (pc' := 360) rfl (hb hby at_349) rfl ((if0 _ _).trans (teq hj11_349).1) (by decide) (by decide) ?_
            refine XS.iconst X9.here hx rfl (hb hby at_360) ?_
            refine XS.goto X9.here hx rfl (pc0 := 361) (pc' := 365) rfl (hb hby at_361) (by decide) (by decide) ?_
            exact kt
          · by_cases hj11_357 : kc = kb
            · rw [if_neg hj11_336, if_neg hj11_344, if_neg hj11_349, if_pos hj11_357] at hn2
              rw [hn2] at kt
              show Steps p.tables e below (T9.setTop (mkF m 334 #[.val (.long q1), .second, .val (.long q2), .second, .val (.long q3), .second, .val (.long q4), .second, .val (.long q5), .second, .val (.long q6), .second, .val (.long ka), .second, .val (.long kb), .second, .val (.long kc), .second, .val (.long kd), .second, .val (.ref t), .val (.ref f), .val (.int d2), .val (.long s3), .second, .val (.int d3), .val (.ref f), .unset] [(.int ((1 : Int32) + n1))])) _
              refine XS.iload X9.here hx rfl (hb hby at_334) rfl ?_
              refine XS.ifNo X9.here hx rfl (hb hby at_336) rfl ((if0 _ _).trans (feq hj11_336).1) ?_
              refine XS.lload X9.here hx rfl (hb hby at_339) rfl ?_
              refine XS.lload X9.here hx rfl (hb hby at_341) rfl ?_
              refine XS.lcmp X9.here hx rfl (hb hby at_343) rfl ?_
              refine XS.ifNo X9.here hx rfl (hb hby at_344) rfl ((if0 _ _).trans (feq (own_lcne hj11_344)).1) ?_
              refine XS.iload X9.here hx rfl (hb hby at_347) rfl ?_
              refine XS.ifNo X9.here hx rfl (hb hby at_349) rfl ((if0 _ _).trans (feq hj11_349).1) ?_
              refine XS.lload X9.here hx rfl (hb hby at_352) rfl ?_
              refine XS.lload X9.here hx rfl (hb hby at_354) rfl ?_
              refine XS.lcmp X9.here hx rfl (hb hby at_356) rfl ?_
              refine XS.ifYes X9.here hx rfl (pc0 := 357) (pc' := 364) rfl (hb hby at_357) rfl ((if0 _ _).trans (teq (own_lceq hj11_357)).1) (by decide) (by decide) ?_
              refine XS.iconst X9.here hx rfl (hb hby at_364) ?_
              exact kt
            · rw [if_neg hj11_336, if_neg hj11_344, if_neg hj11_349, if_neg hj11_357] at hn2
              rw [hn2] at kt
              show Steps p.tables e below (T9.setTop (mkF m 334 #[.val (.long q1), .second, .val (.long q2), .second, .val (.long q3), .second, .val (.long q4), .second, .val (.long q5), .second, .val (.long q6), .second, .val (.long ka), .second, .val (.long kb), .second, .val (.long kc), .second, .val (.long kd), .second, .val (.ref t), .val (.ref f), .val (.int d2), .val (.long s3), .second, .val (.int d3), .val (.ref f), .unset] [(.int ((1 : Int32) + n1))])) _
              refine XS.iload X9.here hx rfl (hb hby at_334) rfl ?_
              refine XS.ifNo X9.here hx rfl (hb hby at_336) rfl ((if0 _ _).trans (feq hj11_336).1) ?_
              refine XS.lload X9.here hx rfl (hb hby at_339) rfl ?_
              refine XS.lload X9.here hx rfl (hb hby at_341) rfl ?_
              refine XS.lcmp X9.here hx rfl (hb hby at_343) rfl ?_
              refine XS.ifNo X9.here hx rfl (hb hby at_344) rfl ((if0 _ _).trans (feq (own_lcne hj11_344)).1) ?_
              refine XS.iload X9.here hx rfl (hb hby at_347) rfl ?_
              refine XS.ifNo X9.here hx rfl (hb hby at_349) rfl ((if0 _ _).trans (feq hj11_349).1) ?_
              refine XS.lload X9.here hx rfl (hb hby at_352) rfl ?_
              refine XS.lload X9.here hx rfl (hb hby at_354) rfl ?_
              refine XS.lcmp X9.here hx rfl (hb hby at_356) rfl ?_
              refine XS.ifNo X9.here hx rfl (hb hby at_357) rfl ((if0 _ _).trans (feq (own_lcne hj11_357)).1) ?_
              refine XS.iconst X9.here hx rfl (hb hby at_360) ?_
              refine XS.goto X9.here hx rfl (pc0 := 361) (pc' := 365) rfl (hb hby at_361) (by decide) (by decide) ?_
              exact kt
    have hnz : (((1 : Int32) + n1) + n2) = (1 : Int32) := by rw [hn1, hn2]; exact Hn
    have HY : ∀ x, (x = ka ∨ (¬ d2 = (0 : Int32) ∧ x = kb) ∨ (¬ d3 = (0 : Int32) ∧ x = kc)) ↔ (x = ka) := fun x => ⟨fun w => own_one Rp HD w, Or.inl⟩
    obtain ⟨cl12, Ar12, qk12, Sz12, Nn12, Hh12, Gg12⟩ := id (AF)
    obtain ⟨cl13, Ar13, qk13, Sz13, Nn13, Hh13, Gg13⟩ := id (AF)
    have hin14 : ¬ ((0 : Int32) < 0 ∨ cl13.slots.size ≤ ((0 : Int32)).toNatClampNeg) := inb_of Sz13 ⟨by decide, by decide⟩
    have hat14 : cl13.slots[((0 : Int32)).toNatClampNeg]? = some (.long ka) := Has.at Hh13 hin14 rfl
    obtain ⟨_, _, ⟨T15, Lq15, kq15, nq15⟩, -, X15, ⟨Lc15, hQ15, lq15, yq15, zq15⟩, st15⟩ := Jvm.LawKit.callS X9 hx (y := (⟨"com/example/pricewright/pricewright/core/LongSumTableAddPinLaw", "member", "(JJZJZJ)Z"⟩ : MethodName)) hown (mvT hZ (hw _ (own_w 92 rfl))) (mvT hZ (hw _ (own_w 93 rfl))) (mvT hZ (hw _ (own_w 2 rfl))) (mvT hZ (hw _ (own_w 94 rfl))) (by decide) (backOf (W := 0) (rmm l Z a0 hw [] ka ka d2 kb d3 kc  h0 n0 Z0 ) hZ (hw _ (own_w 94 rfl)) (hw _ (own_w 2 rfl)) (by decide) (by decide)) (g := (mkF m 432 #[.val (.long q1), .second, .val (.long q2), .second, .val (.long q3), .second, .val (.long q4), .second, .val (.long q5), .second, .val (.long q6), .second, .val (.long ka), .second, .val (.long kb), .second, .val (.long kc), .second, .val (.long kd), .second, .val (.ref t), .val (.ref f), .val (.int d2), .val (.long s3), .second, .val (.int d3), .val (.ref f), .val (.int (1 : Int32))] [(.long kc), (.int d3), (.long kb), (.int d2), (.long ka), (.long ka)])) rfl (by rw [hml]; rfl) (argsL := [(.long ka), (.long ka), (.int d2), (.long kb), (.int d3), (.long kc)]) (rest := []) (lenOf pd_13 rfl) rfl (by show 2 * 0 + _ ≤ _; exact Nat.le_of_eq rfl) (hb hby at_432) (fun _ _ => ⟨rfl, e9, (by decide : 10 + 0 ≤ _), (by decide : 80 + 0 ≤ _)⟩)
    dsimp only [Pt.U, Pt.locs, Pt.cells, Pt.slots] at X15 lq15 yq15 zq15 st15 hQ15
    subst lq15 yq15 zq15
    obtain ⟨r15, hr15, rfl, N15q, e15⟩ := hQ15
    have N15 := Fr.app N9 N15q
    obtain ⟨_, _, ⟨T16, Lq16, kq16, nq16⟩, -, X16, ⟨Lc16, hQ16, lq16, yq16, zq16⟩, st16⟩ := Jvm.LawKit.callS X15 hx (y := (⟨"com/example/pricewright/pricewright/core/LongSumTableAddPinLaw", "in", "([JJ)Z"⟩ : MethodName)) hown (mvT hZ (hw _ (own_w 95 rfl))) (mvT hZ (hw _ (own_w 96 rfl))) (mvT hZ (hw _ (own_w 2 rfl))) (mvT hZ (hw _ (own_w 97 rfl))) (by decide) (backOf (W := 0) (rmin1 l Z a0 hw [] f ka fk ka h0 n0 Z0 AF) hZ (hw _ (own_w 97 rfl)) (hw _ (own_w 2 rfl)) (by decide) (by decide)) (g := (mkF m 500 #[.val (.long q1), .second, .val (.long q2), .second, .val (.long q3), .second, .val (.long q4), .second, .val (.long q5), .second, .val (.long q6), .second, .val (.long ka), .second, .val (.long kb), .second, .val (.long kc), .second, .val (.long kd), .second, .val (.ref t), .val (.ref f), .val (.int d2), .val (.long s3), .second, .val (.int d3), .val (.ref f), .val (.int (1 : Int32))] [(.long ka), (.ref f)])) rfl (by rw [hml]; rfl) (argsL := [(.ref f), (.long ka)]) (rest := []) (lenOf pd_14 rfl) rfl (by show 2 * 0 + _ ≤ _; exact Nat.le_of_eq rfl) (hb hby at_500) (fun _ _ => ⟨rfl, e15, (by decide : 10 + 0 ≤ _), (by decide : 80 + 0 ≤ _)⟩)
    dsimp only [Pt.U, Pt.locs, Pt.cells, Pt.slots] at X16 lq16 yq16 zq16 st16 hQ16
    subst lq16 yq16 zq16
    obtain ⟨r16, hr16, rfl, N16q, e16⟩ := hQ16
    have N16 := Fr.app N15 N16q
    have mg17 : ∃ (T' : State) (L' : List Loc), Stand p l e room_1 s m #[.long q1, .long q2, .long q3, .long q4, .long q5, .long q6] below meth c T' L' 10 80 ∧ T'.heap = h0 ∧ Fr n0 L' ∧ ∀ target, Steps p.tables e below (T'.setTop (mkF m 525 #[.val (.long q1), .second, .val (.long q2), .second, .val (.long q3), .second, .val (.long q4), .second, .val (.long q5), .second, .val (.long q6), .second, .val (.long ka), .second, .val (.long kb), .second, .val (.long kc), .second, .val (.long kd), .second, .val (.ref t), .val (.ref f), .val (.int d2), .val (.long s3), .second, .val (.int d3), .val (.ref f), .val (.int (1 : Int32))] [])) target → Steps p.tables e below (T16.setTop (mkF m 508 #[.val (.long q1), .second, .val (.long q2), .second, .val (.long q3), .second, .val (.long q4), .second, .val (.long q5), .second, .val (.long q6), .second, .val (.long ka), .second, .val (.long kb), .second, .val (.long kc), .second, .val (.long kd), .second, .val (.ref t), .val (.ref f), .val (.int d2), .val (.long s3), .second, .val (.int d3), .val (.ref f), .val (.int (1 : Int32))] [])) target := by
      by_cases hc510 : d2 = (0 : Int32)
      · refine ⟨T16, _, X16, e16, N16, fun target kt => ?_⟩
        show Steps p.tables e below (T16.setTop (mkF m 508 #[.val (.long q1), .second, .val (.long q2), .second, .val (.long q3), .second, .val (.long q4), .second, .val (.long q5), .second, .val (.long q6), .second, .val (.long ka), .second, .val (.long kb), .second, .val (.long kc), .second, .val (.long kd), .second, .val (.ref t), .val (.ref f), .val (.int d2), .val (.long s3), .second, .val (.int d3), .val (.ref f), .val (.int (1 : Int32))] [])) _
        refine XS.iload X16.here hx rfl (hb hby at_508) rfl ?_
        refine XS.ifYes X16.here hx rfl (pc0 := 510) (pc' := 525) rfl (hb hby at_510) rfl ((if0 _ _).trans (teq hc510).1) (by decide) (by decide) ?_
        exact kt
      · obtain ⟨_, _, ⟨T18, Lq18, kq18, nq18⟩, -, X18, ⟨Lc18, hQ18, lq18, yq18, zq18⟩, st18⟩ := Jvm.LawKit.callS X16 hx (y := (⟨"com/example/pricewright/pricewright/core/LongSumTableAddPinLaw", "in", "([JJ)Z"⟩ : MethodName)) hown (mvT hZ (hw _ (own_w 95 rfl))) (mvT hZ (hw _ (own_w 96 rfl))) (mvT hZ (hw _ (own_w 2 rfl))) (mvT hZ (hw _ (own_w 97 rfl))) (by decide) (backOf (W := 0) (rmin1 l Z a0 hw [] f kb fk ka h0 n0 Z0 AF) hZ (hw _ (own_w 97 rfl)) (hw _ (own_w 2 rfl)) (by decide) (by decide)) (g := (mkF m 517 #[.val (.long q1), .second, .val (.long q2), .second, .val (.long q3), .second, .val (.long q4), .second, .val (.long q5), .second, .val (.long q6), .second, .val (.long ka), .second, .val (.long kb), .second, .val (.long kc), .second, .val (.long kd), .second, .val (.ref t), .val (.ref f), .val (.int d2), .val (.long s3), .second, .val (.int d3), .val (.ref f), .val (.int (1 : Int32))] [(.long kb), (.ref f)])) rfl (by rw [hml]; rfl) (argsL := [(.ref f), (.long kb)]) (rest := []) (lenOf pd_14 rfl) rfl (by show 2 * 0 + _ ≤ _; exact Nat.le_of_eq rfl) (hb hby at_517) (fun _ _ => ⟨rfl, e16, (by decide : 10 + 0 ≤ _), (by decide : 80 + 0 ≤ _)⟩)
        dsimp only [Pt.U, Pt.locs, Pt.cells, Pt.slots] at X18 lq18 yq18 zq18 st18 hQ18
        subst lq18 yq18 zq18
        obtain ⟨r18, hr18, rfl, N18q, e18⟩ := hQ18
        have N18 := Fr.app N16 N18q
        refine ⟨T18, _, X18, e18, N18, fun target kt => ?_⟩
        refine XS.iload X16.here hx rfl (hb hby at_508) rfl ?_
        refine XS.ifNo X16.here hx rfl (hb hby at_510) rfl ((if0 _ _).trans (feq hc510).1) ?_
        refine XS.aload X16.here hx rfl (hb hby at_513) rfl rfl ?_
        refine XS.lload X16.here hx rfl (hb hby at_515) rfl ?_
        refine st18 _ ?_
        refine XS.ifYes X18.here hx rfl (pc0 := 520) (pc' := 525) rfl (hb hby at_520) rfl ((if0 _ _).trans (feq (by rw [hr18, if_pos (by have w := (HY _).mp (Or.inr (Or.inl ⟨hc510, rfl⟩)); simpa [eq_comm] using w)]; decide)).2) (by decide) (by decide) ?_
        exact kt
    obtain ⟨T17, L17, X17, e17, N17, st17⟩ := mg17
    have mg19 : ∃ (T' : State) (L' : List Loc), Stand p l e room_1 s m #[.long q1, .long q2, .long q3, .long q4, .long q5, .long q6] below meth c T' L' 10 80 ∧ T'.heap = h0 ∧ Fr n0 L' ∧ ∀ target, Steps p.tables e below (T'.setTop (mkF m 542 #[.val (.long q1), .second, .val (.long q2), .second, .val (.long q3), .second, .val (.long q4), .second, .val (.long q5), .second, .val (.long q6), .second, .val (.long ka), .second, .val (.long kb), .second, .val (.long kc), .second, .val (.long kd), .second, .val (.ref t), .val (.ref f), .val (.int d2), .val (.long s3), .second, .val (.int d3), .val (.ref f), .val (.int (1 : Int32))] [])) target → Steps p.tables e below (T17.setTop (mkF m 525 #[.val (.long q1), .second, .val (.long q2), .second, .val (.long q3), .second, .val (.long q4), .second, .val (.long q5), .second, .val (.long q6), .second, .val (.long ka), .second, .val (.long kb), .second, .val (.long kc), .second, .val (.long kd), .second, .val (.ref t), .val (.ref f), .val (.int d2), .val (.long s3), .second, .val (.int d3), .val (.ref f), .val (.int (1 : Int32))] [])) target := by
      by_cases hc527 : d3 = (0 : Int32)
      · refine ⟨T17, _, X17, e17, N17, fun target kt => ?_⟩
        show Steps p.tables e below (T17.setTop (mkF m 525 #[.val (.long q1), .second, .val (.long q2), .second, .val (.long q3), .second, .val (.long q4), .second, .val (.long q5), .second, .val (.long q6), .second, .val (.long ka), .second, .val (.long kb), .second, .val (.long kc), .second, .val (.long kd), .second, .val (.ref t), .val (.ref f), .val (.int d2), .val (.long s3), .second, .val (.int d3), .val (.ref f), .val (.int (1 : Int32))] [])) _
        refine XS.iload X17.here hx rfl (hb hby at_525) rfl ?_
        refine XS.ifYes X17.here hx rfl (pc0 := 527) (pc' := 542) rfl (hb hby at_527) rfl ((if0 _ _).trans (teq hc527).1) (by decide) (by decide) ?_
        exact kt
      · obtain ⟨_, _, ⟨T20, Lq20, kq20, nq20⟩, -, X20, ⟨Lc20, hQ20, lq20, yq20, zq20⟩, st20⟩ := Jvm.LawKit.callS X17 hx (y := (⟨"com/example/pricewright/pricewright/core/LongSumTableAddPinLaw", "in", "([JJ)Z"⟩ : MethodName)) hown (mvT hZ (hw _ (own_w 95 rfl))) (mvT hZ (hw _ (own_w 96 rfl))) (mvT hZ (hw _ (own_w 2 rfl))) (mvT hZ (hw _ (own_w 97 rfl))) (by decide) (backOf (W := 0) (rmin1 l Z a0 hw [] f kc fk ka h0 n0 Z0 AF) hZ (hw _ (own_w 97 rfl)) (hw _ (own_w 2 rfl)) (by decide) (by decide)) (g := (mkF m 534 #[.val (.long q1), .second, .val (.long q2), .second, .val (.long q3), .second, .val (.long q4), .second, .val (.long q5), .second, .val (.long q6), .second, .val (.long ka), .second, .val (.long kb), .second, .val (.long kc), .second, .val (.long kd), .second, .val (.ref t), .val (.ref f), .val (.int d2), .val (.long s3), .second, .val (.int d3), .val (.ref f), .val (.int (1 : Int32))] [(.long kc), (.ref f)])) rfl (by rw [hml]; rfl) (argsL := [(.ref f), (.long kc)]) (rest := []) (lenOf pd_14 rfl) rfl (by show 2 * 0 + _ ≤ _; exact Nat.le_of_eq rfl) (hb hby at_534) (fun _ _ => ⟨rfl, e17, (by decide : 10 + 0 ≤ _), (by decide : 80 + 0 ≤ _)⟩)
        dsimp only [Pt.U, Pt.locs, Pt.cells, Pt.slots] at X20 lq20 yq20 zq20 st20 hQ20
        subst lq20 yq20 zq20
        obtain ⟨r20, hr20, rfl, N20q, e20⟩ := hQ20
        have N20 := Fr.app N17 N20q
        refine ⟨T20, _, X20, e20, N20, fun target kt => ?_⟩
        refine XS.iload X17.here hx rfl (hb hby at_525) rfl ?_
        refine XS.ifNo X17.here hx rfl (hb hby at_527) rfl ((if0 _ _).trans (feq hc527).1) ?_
        refine XS.aload X17.here hx rfl (hb hby at_530) rfl rfl ?_
        refine XS.lload X17.here hx rfl (hb hby at_532) rfl ?_
        refine st20 _ ?_
        refine XS.ifYes X20.here hx rfl (pc0 := 537) (pc' := 542) rfl (hb hby at_537) rfl ((if0 _ _).trans (feq (by rw [hr20, if_pos (by have w := (HY _).mp (Or.inr (Or.inr ⟨hc527, rfl⟩)); simpa [eq_comm] using w)]; decide)).2) (by decide) (by decide) ?_
        exact kt
    obtain ⟨T19, L19, X19, e19, N19, st19⟩ := mg19
    refine ⟨T19, _, #[.val (.long q1), .second, .val (.long q2), .second, .val (.long q3), .second, .val (.long q4), .second, .val (.long q5), .second, .val (.long q6), .second, .val (.long ka), .second, .val (.long kb), .second, .val (.long kc), .second, .val (.long kd), .second, .val (.ref t), .val (.ref f), .val (.int d2), .val (.long s3), .second, .val (.int d3), .val (.ref f), .val (.int (1 : Int32))], X19.more (cells' := 11) (slots' := 83) (by decide) (by decide), N19, fun target kt => ?_⟩
    refine XS.aload X0.here hx rfl (hb hby at_171) rfl rfl ?_
    refine XS.lload X0.here hx rfl (hb hby at_173) rfl ?_
    refine st1.trans ?_
    refine XS.lload X1.here hx rfl (hb hby at_178) rfl ?_
    refine XS.lload X1.here hx rfl (hb hby at_180) rfl ?_
    refine XS.lload X1.here hx rfl (hb hby at_182) rfl ?_
    refine XS.iload X1.here hx rfl (hb hby at_184) rfl ?_
    refine XS.lload X1.here hx rfl (hb hby at_186) rfl ?_
    refine XS.lload X1.here hx rfl (hb hby at_188) rfl ?_
    refine XS.iload X1.here hx rfl (hb hby at_190) rfl ?_
    refine XS.lload X1.here hx rfl (hb hby at_192) rfl ?_
    refine XS.lload X1.here hx rfl (hb hby at_194) rfl ?_
    refine st2 _ ?_
    refine XS.lcmp X2.here hx rfl (hb hby at_199) rfl ?_
    refine XS.ifYes X2.here hx rfl (pc0 := 200) (pc' := 205) rfl (hb hby at_200) rfl ((if0 _ _).trans (teq (own_lceq (by rw [hg1, hr2]; exact (HX _).symm))).1) (by decide) (by decide) ?_
    refine XS.aload X2.here hx rfl (hb hby at_205) rfl rfl ?_
    refine XS.lload X2.here hx rfl (hb hby at_207) rfl ?_
    refine st3.trans ?_
    refine XS.lload X3.here hx rfl (hb hby at_212) rfl ?_
    refine XS.lload X3.here hx rfl (hb hby at_214) rfl ?_
    refine XS.lload X3.here hx rfl (hb hby at_216) rfl ?_
    refine XS.iload X3.here hx rfl (hb hby at_218) rfl ?_
    refine XS.lload X3.here hx rfl (hb hby at_220) rfl ?_
    refine XS.lload X3.here hx rfl (hb hby at_222) rfl ?_
    refine XS.iload X3.here hx rfl (hb hby at_224) rfl ?_
    refine XS.lload X3.here hx rfl (hb hby at_226) rfl ?_
    refine XS.lload X3.here hx rfl (hb hby at_228) rfl ?_
    refine st4 _ ?_
    refine XS.lcmp X4.here hx rfl (hb hby at_233) rfl ?_
    refine XS.ifYes X4.here hx rfl (pc0 := 234) (pc' := 239) rfl (hb hby at_234) rfl ((if0 _ _).trans (teq (own_lceq (by rw [hg3, hr4]; exact (HX _).symm))).1) (by decide) (by decide) ?_
    refine XS.aload X4.here hx rfl (hb hby at_239) rfl rfl ?_
    refine XS.lload X4.here hx rfl (hb hby at_241) rfl ?_
    refine st5.trans ?_
    refine XS.lload X5.here hx rfl (hb hby at_246) rfl ?_
    refine XS.lload X5.here hx rfl (hb hby at_248) rfl ?_
    refine XS.lload X5.here hx rfl (hb hby at_250) rfl ?_
    refine XS.iload X5.here hx rfl (hb hby at_252) rfl ?_
    refine XS.lload X5.here hx rfl (hb hby at_254) rfl ?_
    refine XS.lload X5.here hx rfl (hb hby at_256) rfl ?_
    show Steps p.tables e below (T5.setTop (mkF m 258 #[.val (.long q1), .second, .val (.long q2), .second, .val (.long q3), .second, .val (.long q4), .second, .val (.long q5), .second, .val (.long q6), .second, .val (.long ka), .second, .val (.long kb), .second, .val (.long kc), .second, .val (.long kd), .second, .val (.ref t), .val (.ref f), .val (.int d2), .val (.long s3), .second, .val (.int d3), .unset, .unset] [(.long q5), (.long kb), (.int d2), (.long q4), (.long ka), (.long kc), (.long r5)])) _
    refine XS.iload X5.here hx rfl (hb hby at_258) rfl ?_
    refine XS.lload X5.here hx rfl (hb hby at_260) rfl ?_
    refine XS.lload X5.here hx rfl (hb hby at_262) rfl ?_
    refine st6 _ ?_
    refine XS.lcmp X6.here hx rfl (hb hby at_267) rfl ?_
    refine XS.ifYes X6.here hx rfl (pc0 := 268) (pc' := 273) rfl (hb hby at_268) rfl ((if0 _ _).trans (teq (own_lceq (by rw [hg5, hr6]; exact (HX _).symm))).1) (by decide) (by decide) ?_
    refine XS.aload X6.here hx rfl (hb hby at_273) rfl rfl ?_
    refine XS.lload X6.here hx rfl (hb hby at_275) rfl ?_
    refine st7.trans ?_
    refine XS.lload X7.here hx rfl (hb hby at_280) rfl ?_
    refine XS.lload X7.here hx rfl (hb hby at_282) rfl ?_
    refine XS.lload X7.here hx rfl (hb hby at_284) rfl ?_
    refine XS.iload X7.here hx rfl (hb hby at_286) rfl ?_
    refine XS.lload X7.here hx rfl (hb hby at_288) rfl ?_
    refine XS.lload X7.here hx rfl (hb hby at_290) rfl ?_
    refine XS.iload X7.here hx rfl (hb hby at_292) rfl ?_
    refine XS.lload X7.here hx rfl (hb hby at_294) rfl ?_
    refine XS.lload X7.here hx rfl (hb hby at_296) rfl ?_
    refine st8 _ ?_
    refine XS.lcmp X8.here hx rfl (hb hby at_301) rfl ?_
    refine XS.ifYes X8.here hx rfl (pc0 := 302) (pc' := 307) rfl (hb hby at_302) rfl ((if0 _ _).trans (teq (own_lceq (by rw [hg7, hr8]; exact (HX _).symm))).1) (by decide) (by decide) ?_
    refine XS.aload X8.here hx rfl (hb hby at_307) rfl rfl ?_
    refine st9.trans ?_
    refine XS.astore X9.here hx rfl (hb hby at_312) rfl rfl (l' := #[.val (.long q1), .second, .val (.long q2), .second, .val (.long q3), .second, .val (.long q4), .second, .val (.long q5), .second, .val (.long q6), .second, .val (.long ka), .second, .val (.long kb), .second, .val (.long kc), .second, .val (.long kd), .second, .val (.ref t), .val (.ref f), .val (.int d2), .val (.long s3), .second, .val (.int d3), .val (.ref f), .unset]) rfl ?_
    refine XS.iconst X9.here hx rfl (hb hby at_314) ?_
    refine sg10 _ ?_
    refine XS.iadd X9.here hx rfl (hb hby at_333) rfl ?_
    refine sg11 _ ?_
    refine XS.iadd X9.here hx rfl (hb hby at_365) rfl ?_
    show Steps p.tables e below (T9.setTop (mkF m 366 #[.val (.long q1), .second, .val (.long q2), .second, .val (.long q3), .second, .val (.long q4), .second, .val (.long q5), .second, .val (.long q6), .second, .val (.long ka), .second, .val (.long kb), .second, .val (.long kc), .second, .val (.long kd), .second, .val (.ref t), .val (.ref f), .val (.int d2), .val (.long s3), .second, .val (.int d3), .val (.ref f), .unset] [(.int (((1 : Int32) + n1) + n2))])) _
    rw [hnz]
    show Steps p.tables e below (T9.setTop (mkF m 366 #[.val (.long q1), .second, .val (.long q2), .second, .val (.long q3), .second, .val (.long q4), .second, .val (.long q5), .second, .val (.long q6), .second, .val (.long ka), .second, .val (.long kb), .second, .val (.long kc), .second, .val (.long kd), .second, .val (.ref t), .val (.ref f), .val (.int d2), .val (.long s3), .second, .val (.int d3), .val (.ref f), .unset] [(.int (1 : Int32))])) _
    refine XS.istore X9.here hx rfl (hb hby at_366) rfl (l' := #[.val (.long q1), .second, .val (.long q2), .second, .val (.long q3), .second, .val (.long q4), .second, .val (.long q5), .second, .val (.long q6), .second, .val (.long ka), .second, .val (.long kb), .second, .val (.long kc), .second, .val (.long kd), .second, .val (.ref t), .val (.ref f), .val (.int d2), .val (.long s3), .second, .val (.int d3), .val (.ref f), .val (.int (1 : Int32))]) rfl ?_
    refine XS.aload X9.here hx rfl (hb hby at_368) rfl rfl ?_
    refine X9.arraylength hx (by rw [e9]; exact Ar12.1) (State.isArrayOf_alike hZ.alike Ar12.2.1) (g := (mkF m 370 #[.val (.long q1), .second, .val (.long q2), .second, .val (.long q3), .second, .val (.long q4), .second, .val (.long q5), .second, .val (.long q6), .second, .val (.long ka), .second, .val (.long kb), .second, .val (.long kc), .second, .val (.long kd), .second, .val (.ref t), .val (.ref f), .val (.int d2), .val (.long s3), .second, .val (.int d3), .val (.ref f), .val (.int (1 : Int32))] [(.ref f)])) rfl rfl (hb hby at_370) _ ?_
    rw [len_of Sz12 Nn12]
    show Steps p.tables e below (T9.setTop (mkF m 371 #[.val (.long q1), .second, .val (.long q2), .second, .val (.long q3), .second, .val (.long q4), .second, .val (.long q5), .second, .val (.long q6), .second, .val (.long ka), .second, .val (.long kb), .second, .val (.long kc), .second, .val (.long kd), .second, .val (.ref t), .val (.ref f), .val (.int d2), .val (.long s3), .second, .val (.int d3), .val (.ref f), .val (.int (1 : Int32))] [(.int (1 : Int32))])) _
    refine XS.iload X9.here hx rfl (hb hby at_371) rfl ?_
    refine XS.icmpYes X9.here hx rfl (pc0 := 373) (pc' := 378) rfl (hb hby at_373) rfl (teq (by decide)).1 (by decide) (by decide) ?_
    refine XS.iload X9.here hx rfl (hb hby at_378) rfl ?_
    refine XS.iconst X9.here hx rfl (hb hby at_380) ?_
    refine XS.icmpYes X9.here hx rfl (pc0 := 381) (pc' := 398) rfl (hb hby at_381) rfl (tlt (by decide)).1 (by decide) (by decide) ?_
    refine XS.iload X9.here hx rfl (hb hby at_398) rfl ?_
    refine XS.iconst X9.here hx rfl (hb hby at_400) ?_
    refine XS.icmpYes X9.here hx rfl (pc0 := 401) (pc' := 418) rfl (hb hby at_401) rfl (feq (by decide)).2 (by decide) (by decide) ?_
    refine XS.aload X9.here hx rfl (hb hby at_418) rfl rfl ?_
    refine XS.iconst X9.here hx rfl (hb hby at_420) ?_
    refine X9.laload hx (j := (0 : Int32)) (v := (.long ka)) (by rw [e9]; exact Ar13.1) (State.isArrayOf_alike hZ.alike Ar13.2.1) Ar13.2.2 hin14 hat14 (g := (mkF m 421 #[.val (.long q1), .second, .val (.long q2), .second, .val (.long q3), .second, .val (.long q4), .second, .val (.long q5), .second, .val (.long q6), .second, .val (.long ka), .second, .val (.long kb), .second, .val (.long kc), .second, .val (.long kd), .second, .val (.ref t), .val (.ref f), .val (.int d2), .val (.long s3), .second, .val (.int d3), .val (.ref f), .val (.int (1 : Int32))] [(.int (0 : Int32)), (.ref f)])) rfl rfl (hb hby at_421) _ ?_
    refine XS.lload X9.here hx rfl (hb hby at_422) rfl ?_
    refine XS.iload X9.here hx rfl (hb hby at_424) rfl ?_
    refine XS.lload X9.here hx rfl (hb hby at_426) rfl ?_
    refine XS.iload X9.here hx rfl (hb hby at_428) rfl ?_
    refine XS.lload X9.here hx rfl (hb hby at_430) rfl ?_
    refine st15 _ ?_
    refine XS.ifYes X15.here hx rfl (pc0 := 435) (pc' := 440) rfl (hb hby at_435) rfl ((if0 _ _).trans (feq (by rw [hr15]; exact own_mem1 ((HY _).mpr rfl))).2) (by decide) (by decide) ?_
    refine XS.iload X15.here hx rfl (hb hby at_440) rfl ?_
    refine XS.iconst X15.here hx rfl (hb hby at_442) ?_
    refine XS.icmpYes X15.here hx rfl (pc0 := 443) (pc' := 468) rfl (hb hby at_443) rfl (tlt (by decide)).1 (by decide) (by decide) ?_
    refine XS.iload X15.here hx rfl (hb hby at_468) rfl ?_
    refine XS.iconst X15.here hx rfl (hb hby at_470) ?_
    refine XS.icmpYes X15.here hx rfl (pc0 := 471) (pc' := 496) rfl (hb hby at_471) rfl (feq (by decide)).2 (by decide) (by decide) ?_
    refine XS.aload X15.here hx rfl (hb hby at_496) rfl rfl ?_
    refine XS.lload X15.here hx rfl (hb hby at_498) rfl ?_
    refine st16 _ ?_
    refine XS.ifYes X16.here hx rfl (pc0 := 503) (pc' := 508) rfl (hb hby at_503) rfl ((if0 _ _).trans (feq (by rw [hr16, if_pos (by have w := (HY _).mp (Or.inl rfl); simpa [eq_comm] using w)]; decide)).2) (by decide) (by decide) ?_
    refine st17 _ ?_
    refine st19 _ ?_
    refine XS.iconst X19.here hx rfl (hb hby at_542) ?_
    exact kt
  · obtain rfl := own_sh62 hn
    obtain ⟨cq21, kz21, q21a, q21b, q21c⟩ := isOf hZ e8 E
    obtain ⟨_, _, ⟨T21, Lq21, kq21, nq21⟩, -, X21, ⟨Lc21, hQ21, lq21, yq21, zq21⟩, st21⟩ := X8.virtualBack hx (y := (⟨"com/example/pricewright/pricewright/core/LongSumTable", "sortedKeys", "()[J"⟩ : MethodName)) (z := (⟨"com/example/pricewright/pricewright/core/LongSumTable", "sortedKeys", "()[J"⟩ : MethodName)) hown (mvT hZ (hw _ (own_w 49 rfl))) (mvT hZ (hw _ (own_w 50 rfl))) (notFace_of_selects (args := #[]) (mvT hZ (hw _ (own_w 52 rfl)))) (mvT hZ (hw _ (own_w 52 rfl))) (mvT hZ (hw _ (own_w 51 rfl))) (by decide) (backOf (W := 0) (rmK4_2 l Z a0 hw [] t a k arr D M h0 n0 Z0 E FS FH FZ FQ AV hta gt Rp) hZ (hw _ (own_w 53 rfl)) (hw _ (own_w 7 rfl)) (by decide) (by decide)) q21a q21c (g := (mkF m 309 #[.val (.long q1), .second, .val (.long q2), .second, .val (.long q3), .second, .val (.long q4), .second, .val (.long q5), .second, .val (.long q6), .second, .val (.long ka), .second, .val (.long kb), .second, .val (.long kc), .second, .val (.long kd), .second, .val (.ref t), .val (.ref f), .val (.int d2), .val (.long s3), .second, .val (.int d3), .unset, .unset] [(.ref t)])) rfl (by rw [hml]; rfl) (Steps.refl _) (argsL := []) (rest := []) (lenOf pd_12 rfl) rfl (by show 2 * 0 + _ ≤ _; exact Nat.le_of_eq rfl) (hb hby at_309) (fun _ _ => ⟨rfl, e8, (by decide : 10 + 1 ≤ _), (by decide : 80 + 2 ≤ _)⟩)
    dsimp only [Pt.U, Pt.locs, Pt.cells, Pt.slots] at X21 lq21 yq21 zq21 st21 hQ21
    subst lq21 yq21 zq21
    obtain ⟨sa21, sk21, y21_0, y21_1, rfl, N21q, KC21, gs21, gz21, E21', FS21', FH21', FZ21', FQ21', AS21, str21, mem21⟩ := hQ21
    have N21 := Fr.app N8 N21q
    have Z21 : n0 ≤ T21.heap.size := Nat.le_trans Z0 KC21.1
    have ne21a : t ≠ sa21 := ne_arrV E21' (hw _ (own_w 6 rfl)) AS21
    have ne21b : a ≠ sa21 := Nat.ne_of_lt (Nat.lt_of_lt_of_le AV.lt gz21)
    obtain ⟨n1, hn1⟩ : ∃ z : Int32, z = (if d2 = (0 : Int32) then (0 : Int32) else (if kb = ka then (0 : Int32) else (1 : Int32))) := ⟨_, rfl⟩
    have sg22 : ∀ tg0, Steps p.tables e below (T21.setTop (mkF m 333 #[.val (.long q1), .second, .val (.long q2), .second, .val (.long q3), .second, .val (.long q4), .second, .val (.long q5), .second, .val (.long q6), .second, .val (.long ka), .second, .val (.long kb), .second, .val (.long kc), .second, .val (.long kd), .second, .val (.ref t), .val (.ref f), .val (.int d2), .val (.long s3), .second, .val (.int d3), .val (.ref sa21), .unset] [(.int n1), (.int (1 : Int32))])) tg0 → Steps p.tables e below (T21.setTop (mkF m 315 #[.val (.long q1), .second, .val (.long q2), .second, .val (.long q3), .second, .val (.long q4), .second, .val (.long q5), .second, .val (.long q6), .second, .val (.long ka), .second, .val (.long kb), .second, .val (.long kc), .second, .val (.long kd), .second, .val (.ref t), .val (.ref f), .val (.int d2), .val (.long s3), .second, .val (.int d3), .val (.ref sa21), .unset] [(.int (1 : Int32))])) tg0 := by
      intro tg0 kt
      by_cases hj22_317 : d2 = (0 : Int32)
      · rw [if_pos hj22_317] at hn1
        rw [hn1] at kt
        show Steps p.tables e below (T21.setTop (mkF m 315 #[.val (.long q1), .second, .val (.long q2), .second, .val (.long q3), .second, .val (.long q4), .second, .val (.long q5), .second, .val (.long q6), .second, .val (.long ka), .second, .val (.long kb), .second, .val (.long kc), .second, .val (.long kd), .second, .val (.ref t), .val (.ref f), .val (.int d2), .val (.long s3), .second, .val (.int d3), .val (.ref sa21), .unset] [(.int (1 : Int32))])) _
        refine XS.iload X21.here hx rfl (hb hby at_315) rfl ?_
        refine XS.ifYes X21.here hx rfl (pc0 := 317) (pc' := 332) rfl (hb hby at_317) rfl ((if0 _ _).trans (teq hj22_317).1) (by decide) (by decide) ?_
        refine XS.iconst X21.here hx rfl (hb hby at_332) ?_
        exact kt
      · by_cases hj22_325 : kb = ka
        · rw [if_neg hj22_317, if_pos hj22_325] at hn1
          rw [hn1] at kt
          show Steps p.tables e below (T21.setTop (mkF m 315 #[.val (.long q1), .second, .val (.long q2), .second, .val (.long q3), .second, .val (.long q4), .second, .val (.long q5), .second, .val (.long q6), .second, .val (.long ka), .second, .val (.long kb), .second, .val (.long kc), .second, .val (.long kd), .second, .val (.ref t), .val (.ref f), .val (.int d2), .val (.long s3), .second, .val (.int d3), .val (.ref sa21), .unset] [(.int (1 : Int32))])) _
          refine XS.iload X21.here hx rfl (hb hby at_315) rfl ?_
          refine XS.ifNo X21.here hx rfl (hb hby at_317) rfl ((if0 _ _).trans (feq hj22_317).1) ?_
          refine XS.lload X21.here hx rfl (hb hby at_320) rfl ?_
          refine XS.lload X21.here hx rfl (hb hby at_322) rfl ?_
          refine XS.lcmp X21.here hx rfl (hb hby at_324) rfl ?_
          refine XS.ifYes X21.here hx rfl (pc0 := 325) (pc' := 332) rfl (hb hby at_325) rfl ((if0 _ _).trans (teq (own_lceq hj22_325)).1) (by decide) (by decide) ?_
          refine XS.iconst X21.here hx rfl (hb hby at_332) ?_
          exact kt
        · rw [if_neg hj22_317, if_neg hj22_325] at hn1
          rw [hn1] at kt
          show Steps p.tables e below (T21.setTop (mkF m 315 #[.val (.long q1), .second, .val (.long q2), .second, .val (.long q3), .second, .val (.long q4), .second, .val (.long q5), .second, .val (.long q6), .second, .val (.long ka), .second, .val (.long kb), .second, .val (.long kc), .second, .val (.long kd), .second, .val (.ref t), .val (.ref f), .val (.int d2), .val (.long s3), .second, .val (.int d3), .val (.ref sa21), .unset] [(.int (1 : Int32))])) _
          refine XS.iload X21.here hx rfl (hb hby at_315) rfl ?_
          refine XS.ifNo X21.here hx rfl (hb hby at_317) rfl ((if0 _ _).trans (feq hj22_317).1) ?_
          refine XS.lload X21.here hx rfl (hb hby at_320) rfl ?_
          refine XS.lload X21.here hx rfl (hb hby at_322) rfl ?_
          refine XS.lcmp X21.here hx rfl (hb hby at_324) rfl ?_
          refine XS.ifNo X21.here hx rfl (hb hby at_325) rfl ((if0 _ _).trans (feq (own_lcne hj22_325)).1) ?_
          refine XS.iconst X21.here hx rfl (hb hby at_328) ?_
          refine XS.goto X21.here hx rfl (pc0 := 329) (pc' := 333) rfl (hb hby at_329) (by decide) (by decide) ?_
          exact kt
    obtain ⟨n2, hn2⟩ : ∃ z : Int32, z = (if d3 = (0 : Int32) then (0 : Int32) else (if kc = ka then (0 : Int32) else (if d2 = (0 : Int32) then (1 : Int32) else (if kc = kb then (0 : Int32) else (1 : Int32))))) := ⟨_, rfl⟩
    have sg23 : ∀ tg0, Steps p.tables e below (T21.setTop (mkF m 365 #[.val (.long q1), .second, .val (.long q2), .second, .val (.long q3), .second, .val (.long q4), .second, .val (.long q5), .second, .val (.long q6), .second, .val (.long ka), .second, .val (.long kb), .second, .val (.long kc), .second, .val (.long kd), .second, .val (.ref t), .val (.ref f), .val (.int d2), .val (.long s3), .second, .val (.int d3), .val (.ref sa21), .unset] [(.int n2), (.int ((1 : Int32) + n1))])) tg0 → Steps p.tables e below (T21.setTop (mkF m 334 #[.val (.long q1), .second, .val (.long q2), .second, .val (.long q3), .second, .val (.long q4), .second, .val (.long q5), .second, .val (.long q6), .second, .val (.long ka), .second, .val (.long kb), .second, .val (.long kc), .second, .val (.long kd), .second, .val (.ref t), .val (.ref f), .val (.int d2), .val (.long s3), .second, .val (.int d3), .val (.ref sa21), .unset] [(.int ((1 : Int32) + n1))])) tg0 := by
      intro tg0 kt
      by_cases hj23_336 : d3 = (0 : Int32)
      · rw [if_pos hj23_336] at hn2
        rw [hn2] at kt
        show Steps p.tables e below (T21.setTop (mkF m 334 #[.val (.long q1), .second, .val (.long q2), .second, .val (.long q3), .second, .val (.long q4), .second, .val (.long q5), .second, .val (.long q6), .second, .val (.long ka), .second, .val (.long kb), .second, .val (.long kc), .second, .val (.long kd), .second, .val (.ref t), .val (.ref f), .val (.int d2), .val (.long s3), .second, .val (.int d3), .val (.ref sa21), .unset] [(.int ((1 : Int32) + n1))])) _
        refine XS.iload X21.here hx rfl (hb hby at_334) rfl ?_
        refine XS.ifYes X21.here hx rfl (pc0 := 336) (pc' := 364) rfl (hb hby at_336) rfl ((if0 _ _).trans (teq hj23_336).1) (by decide) (by decide) ?_
        refine XS.iconst X21.here hx rfl (hb hby at_364) ?_
        exact kt
      · by_cases hj23_344 : kc = ka
        · rw [if_neg hj23_336, if_pos hj23_344] at hn2
          rw [hn2] at kt
          show Steps p.tables e below (T21.setTop (mkF m 334 #[.val (.long q1), .second, .val (.long q2), .second, .val (.long q3), .second, .val (.long q4), .second, .val (.long q5), .second, .val (.long q6), .second, .val (.long ka), .second, .val (.long kb), .second, .val (.long kc), .second, .val (.long kd), .second, .val (.ref t), .val (.ref f), .val (.int d2), .val (.long s3), .second, .val (.int d3), .val (.ref sa21), .unset] [(.int ((1 : Int32) + n1))])) _
          refine XS.iload X21.here hx rfl (hb hby at_334) rfl ?_
          refine XS.ifNo X21.here hx rfl (hb hby at_336) rfl ((if0 _ _).trans (feq hj23_336).1) ?_
          refine XS.lload X21.here hx rfl (hb hby at_339) rfl ?_
          refine XS.lload X21.here hx rfl (hb hby at_341) rfl ?_
          refine XS.lcmp X21.here hx rfl (hb hby at_343) rfl ?_
          refine XS.ifYes X21.here hx rfl (pc0 := 344) (pc' := 364) rfl (hb hby at_344) rfl ((if0 _ _).trans (teq (own_lceq hj23_344)).1) (by decide) (by decide) ?_
          refine XS.iconst X21.here hx rfl (hb hby at_364) ?_
          exact kt
        · by_cases hj23_349 : d2 = (0 : Int32)
          · rw [if_neg hj23_336, if_neg hj23_344, if_pos hj23_349] at hn2
            rw [hn2] at kt
            show Steps p.tables e below (T21.setTop (mkF m 334 #[.val (.long q1), .second, .val (.long q2), .second, .val (.long q3), .second, .val (.long q4), .second, .val (.long q5), .second, .val (.long q6), .second, .val (.long ka), .second, .val (.long kb), .second, .val (.long kc), .second, .val (.long kd), .second, .val (.ref t), .val (.ref f), .val (.int d2), .val (.long s3), .second, .val (.int d3), .val (.ref sa21), .unset] [(.int ((1 : Int32) + n1))])) _
            refine XS.iload X21.here hx rfl (hb hby at_334) rfl ?_
            refine XS.ifNo X21.here hx rfl (hb hby at_336) rfl ((if0 _ _).trans (feq hj23_336).1) ?_
            refine XS.lload X21.here hx rfl (hb hby at_339) rfl ?_
            refine XS.lload X21.here hx rfl (hb hby at_341) rfl ?_
            refine XS.lcmp X21.here hx rfl (hb hby at_343) rfl ?_
            refine XS.ifNo X21.here hx rfl (hb hby at_344) rfl ((if0 _ _).trans (feq (own_lcne hj23_344)).1) ?_
            refine XS.iload X21.here hx rfl (hb hby at_347) rfl ?_
            refine XS.ifYes X21.here hx rfl (pc0 := 349) (pc' := 360) rfl (hb hby at_349) rfl ((if0 _ _).trans (teq hj23_349).1) (by decide) (by decide) ?_
            refine XS.iconst X21.here hx rfl (hb hby at_360) ?_
            refine XS.goto X21.here hx rfl (pc0 := 361) (pc' := 365) rfl (hb hby at_361) (by decide) (by decide) ?_
            exact kt
          · by_cases hj23_357 : kc = kb
            · rw [if_neg hj23_336, if_neg hj23_344, if_neg hj23_349, if_pos hj23_357] at hn2
              rw [hn2] at kt
              show Steps p.tables e below (T21.setTop (mkF m 334 #[.val (.long q1), .second, .val (.long q2), .second, .val (.long q3), .second, .val (.long q4), .second, .val (.long q5), .second, .val (.long q6), .second, .val (.long ka), .second, .val (.long kb), .second, .val (.long kc), .second, .val (.long kd), .second, .val (.ref t), .val (.ref f), .val (.int d2), .val (.long s3), .second, .val (.int d3), .val (.ref sa21), .unset] [(.int ((1 : Int32) + n1))])) _
              refine XS.iload X21.here hx rfl (hb hby at_334) rfl ?_
              refine XS.ifNo X21.here hx rfl (hb hby at_336) rfl ((if0 _ _).trans (feq hj23_336).1) ?_
              refine XS.lload X21.here hx rfl (hb hby at_339) rfl ?_
              refine XS.lload X21.here hx rfl (hb hby at_341) rfl ?_
              refine XS.lcmp X21.here hx rfl (hb hby at_343) rfl ?_
              refine XS.ifNo X21.here hx rfl (hb hby at_344) rfl ((if0 _ _).trans (feq (own_lcne hj23_344)).1) ?_
              refine XS.iload X21.here hx rfl (hb hby at_347) rfl ?_
              refine XS.ifNo X21.here hx rfl (hb hby at_349) rfl ((if0 _ _).trans (feq hj23_349).1) ?_
              refine XS.lload X21.here hx rfl (hb hby at_352) rfl ?_
              refine XS.lload X21.here hx rfl (hb hby at_354) rfl ?_
              refine XS.lcmp X21.here hx rfl (hb hby at_356) rfl ?_
              refine XS.ifYes X21.here hx rfl (pc0 := 357) (pc' := 364) rfl (hb hby at_357) rfl ((if0 _ _).trans (teq (own_lceq hj23_357)).1) (by decide) (by decide) ?_
              refine XS.iconst X21.here hx rfl (hb hby at_364) ?_
              exact kt
            · rw [if_neg hj23_336, if_neg hj23_344, if_neg hj23_349, if_neg hj23_357] at hn2
              rw [hn2] at kt
              show Steps p.tables e below (T21.setTop (mkF m 334 #[.val (.long q1), .second, .val (.long q2), .second, .val (.long q3), .second, .val (.long q4), .second, .val (.long q5), .second, .val (.long q6), .second, .val (.long ka), .second, .val (.long kb), .second, .val (.long kc), .second, .val (.long kd), .second, .val (.ref t), .val (.ref f), .val (.int d2), .val (.long s3), .second, .val (.int d3), .val (.ref sa21), .unset] [(.int ((1 : Int32) + n1))])) _
              refine XS.iload X21.here hx rfl (hb hby at_334) rfl ?_
              refine XS.ifNo X21.here hx rfl (hb hby at_336) rfl ((if0 _ _).trans (feq hj23_336).1) ?_
              refine XS.lload X21.here hx rfl (hb hby at_339) rfl ?_
              refine XS.lload X21.here hx rfl (hb hby at_341) rfl ?_
              refine XS.lcmp X21.here hx rfl (hb hby at_343) rfl ?_
              refine XS.ifNo X21.here hx rfl (hb hby at_344) rfl ((if0 _ _).trans (feq (own_lcne hj23_344)).1) ?_
              refine XS.iload X21.here hx rfl (hb hby at_347) rfl ?_
              refine XS.ifNo X21.here hx rfl (hb hby at_349) rfl ((if0 _ _).trans (feq hj23_349).1) ?_
              refine XS.lload X21.here hx rfl (hb hby at_352) rfl ?_
              refine XS.lload X21.here hx rfl (hb hby at_354) rfl ?_
              refine XS.lcmp X21.here hx rfl (hb hby at_356) rfl ?_
              refine XS.ifNo X21.here hx rfl (hb hby at_357) rfl ((if0 _ _).trans (feq (own_lcne hj23_357)).1) ?_
              refine XS.iconst X21.here hx rfl (hb hby at_360) ?_
              refine XS.goto X21.here hx rfl (pc0 := 361) (pc' := 365) rfl (hb hby at_361) (by decide) (by decide) ?_
              exact kt
    have hnz : (((1 : Int32) + n1) + n2) = (2 : Int32) := by rw [hn1, hn2]; exact Hn
    have HY : ∀ x, (x = ka ∨ (¬ d2 = (0 : Int32) ∧ x = kb) ∨ (¬ d3 = (0 : Int32) ∧ x = kc)) ↔ (x = y21_0 ∨ x = y21_1) := fun x => (HD x).symm.trans (mem21 x)
    obtain ⟨cl24, Ar24, qk24, Sz24, Nn24, Hh24, Gg24⟩ := id (AS21)
    obtain ⟨cl25, Ar25, qk25, Sz25, Nn25, Hh25, Gg25⟩ := id (AS21)
    have hin26 : ¬ ((0 : Int32) < 0 ∨ cl25.slots.size ≤ ((0 : Int32)).toNatClampNeg) := inb_of Sz25 ⟨by decide, by decide⟩
    have hat26 : cl25.slots[((0 : Int32)).toNatClampNeg]? = some (.long y21_0) := Has.at Hh25 hin26 rfl
    obtain ⟨cl27, Ar27, qk27, Sz27, Nn27, Hh27, Gg27⟩ := id (AS21)
    have hin28 : ¬ ((1 : Int32) < 0 ∨ cl27.slots.size ≤ ((1 : Int32)).toNatClampNeg) := inb_of Sz27 ⟨by decide, by decide⟩
    have hat28 : cl27.slots[((1 : Int32)).toNatClampNeg]? = some (.long y21_1) := Has.at Hh27 hin28 rfl
    obtain ⟨cl29, Ar29, qk29, Sz29, Nn29, Hh29, Gg29⟩ := id (AS21)
    have hin30 : ¬ ((0 : Int32) < 0 ∨ cl29.slots.size ≤ ((0 : Int32)).toNatClampNeg) := inb_of Sz29 ⟨by decide, by decide⟩
    have hat30 : cl29.slots[((0 : Int32)).toNatClampNeg]? = some (.long y21_0) := Has.at Hh29 hin30 rfl
    obtain ⟨_, _, ⟨T31, Lq31, kq31, nq31⟩, -, X31, ⟨Lc31, hQ31, lq31, yq31, zq31⟩, st31⟩ := Jvm.LawKit.callS X21 hx (y := (⟨"com/example/pricewright/pricewright/core/LongSumTableAddPinLaw", "member", "(JJZJZJ)Z"⟩ : MethodName)) hown (mvT hZ (hw _ (own_w 92 rfl))) (mvT hZ (hw _ (own_w 93 rfl))) (mvT hZ (hw _ (own_w 2 rfl))) (mvT hZ (hw _ (own_w 94 rfl))) (by decide) (backOf (W := 0) (rmm l Z a0 hw [] y21_0 ka d2 kb d3 kc  T21.heap n0 Z21 ) hZ (hw _ (own_w 94 rfl)) (hw _ (own_w 2 rfl)) (by decide) (by decide)) (g := (mkF m 432 #[.val (.long q1), .second, .val (.long q2), .second, .val (.long q3), .second, .val (.long q4), .second, .val (.long q5), .second, .val (.long q6), .second, .val (.long ka), .second, .val (.long kb), .second, .val (.long kc), .second, .val (.long kd), .second, .val (.ref t), .val (.ref f), .val (.int d2), .val (.long s3), .second, .val (.int d3), .val (.ref sa21), .val (.int (2 : Int32))] [(.long kc), (.int d3), (.long kb), (.int d2), (.long ka), (.long y21_0)])) rfl (by rw [hml]; rfl) (argsL := [(.long y21_0), (.long ka), (.int d2), (.long kb), (.int d3), (.long kc)]) (rest := []) (lenOf pd_13 rfl) rfl (by show 2 * 0 + _ ≤ _; exact Nat.le_of_eq rfl) (hb hby at_432) (fun _ _ => ⟨rfl, rfl, (by decide : 11 + 0 ≤ _), (by decide : 82 + 0 ≤ _)⟩)
    dsimp only [Pt.U, Pt.locs, Pt.cells, Pt.slots] at X31 lq31 yq31 zq31 st31 hQ31
    subst lq31 yq31 zq31
    obtain ⟨r31, hr31, rfl, N31q, e31⟩ := hQ31
    have N31 := Fr.app N21 N31q
    obtain ⟨cl32, Ar32, qk32, Sz32, Nn32, Hh32, Gg32⟩ := id (AS21)
    have hin33 : ¬ ((1 : Int32) < 0 ∨ cl32.slots.size ≤ ((1 : Int32)).toNatClampNeg) := inb_of Sz32 ⟨by decide, by decide⟩
    have hat33 : cl32.slots[((1 : Int32)).toNatClampNeg]? = some (.long y21_1) := Has.at Hh32 hin33 rfl
    obtain ⟨_, _, ⟨T34, Lq34, kq34, nq34⟩, -, X34, ⟨Lc34, hQ34, lq34, yq34, zq34⟩, st34⟩ := Jvm.LawKit.callS X31 hx (y := (⟨"com/example/pricewright/pricewright/core/LongSumTableAddPinLaw", "member", "(JJZJZJ)Z"⟩ : MethodName)) hown (mvT hZ (hw _ (own_w 92 rfl))) (mvT hZ (hw _ (own_w 93 rfl))) (mvT hZ (hw _ (own_w 2 rfl))) (mvT hZ (hw _ (own_w 94 rfl))) (by decide) (backOf (W := 0) (rmm l Z a0 hw [] y21_1 ka d2 kb d3 kc  T21.heap n0 Z21 ) hZ (hw _ (own_w 94 rfl)) (hw _ (own_w 2 rfl)) (by decide) (by decide)) (g := (mkF m 460 #[.val (.long q1), .second, .val (.long q2), .second, .val (.long q3), .second, .val (.long q4), .second, .val (.long q5), .second, .val (.long q6), .second, .val (.long ka), .second, .val (.long kb), .second, .val (.long kc), .second, .val (.long kd), .second, .val (.ref t), .val (.ref f), .val (.int d2), .val (.long s3), .second, .val (.int d3), .val (.ref sa21), .val (.int (2 : Int32))] [(.long kc), (.int d3), (.long kb), (.int d2), (.long ka), (.long y21_1)])) rfl (by rw [hml]; rfl) (argsL := [(.long y21_1), (.long ka), (.int d2), (.long kb), (.int d3), (.long kc)]) (rest := []) (lenOf pd_13 rfl) rfl (by show 2 * 0 + _ ≤ _; exact Nat.le_of_eq rfl) (hb hby at_460) (fun _ _ => ⟨rfl, e31, (by decide : 11 + 0 ≤ _), (by decide : 82 + 0 ≤ _)⟩)
    dsimp only [Pt.U, Pt.locs, Pt.cells, Pt.slots] at X34 lq34 yq34 zq34 st34 hQ34
    subst lq34 yq34 zq34
    obtain ⟨r34, hr34, rfl, N34q, e34⟩ := hQ34
    have N34 := Fr.app N31 N34q
    obtain ⟨_, _, ⟨T35, Lq35, kq35, nq35⟩, -, X35, ⟨Lc35, hQ35, lq35, yq35, zq35⟩, st35⟩ := Jvm.LawKit.callS X34 hx (y := (⟨"com/example/pricewright/pricewright/core/LongSumTableAddPinLaw", "in", "([JJ)Z"⟩ : MethodName)) hown (mvT hZ (hw _ (own_w 95 rfl))) (mvT hZ (hw _ (own_w 96 rfl))) (mvT hZ (hw _ (own_w 2 rfl))) (mvT hZ (hw _ (own_w 97 rfl))) (by decide) (backOf (W := 0) (rmin2 l Z a0 hw [] sa21 ka sk21 y21_0 y21_1 T21.heap n0 Z21 AS21) hZ (hw _ (own_w 97 rfl)) (hw _ (own_w 2 rfl)) (by decide) (by decide)) (g := (mkF m 500 #[.val (.long q1), .second, .val (.long q2), .second, .val (.long q3), .second, .val (.long q4), .second, .val (.long q5), .second, .val (.long q6), .second, .val (.long ka), .second, .val (.long kb), .second, .val (.long kc), .second, .val (.long kd), .second, .val (.ref t), .val (.ref f), .val (.int d2), .val (.long s3), .second, .val (.int d3), .val (.ref sa21), .val (.int (2 : Int32))] [(.long ka), (.ref sa21)])) rfl (by rw [hml]; rfl) (argsL := [(.ref sa21), (.long ka)]) (rest := []) (lenOf pd_14 rfl) rfl (by show 2 * 0 + _ ≤ _; exact Nat.le_of_eq rfl) (hb hby at_500) (fun _ _ => ⟨rfl, e34, (by decide : 11 + 0 ≤ _), (by decide : 82 + 0 ≤ _)⟩)
    dsimp only [Pt.U, Pt.locs, Pt.cells, Pt.slots] at X35 lq35 yq35 zq35 st35 hQ35
    subst lq35 yq35 zq35
    obtain ⟨r35, hr35, rfl, N35q, e35⟩ := hQ35
    have N35 := Fr.app N34 N35q
    have mg36 : ∃ (T' : State) (L' : List Loc), Stand p l e room_1 s m #[.long q1, .long q2, .long q3, .long q4, .long q5, .long q6] below meth c T' L' 11 82 ∧ T'.heap = T21.heap ∧ Fr n0 L' ∧ ∀ target, Steps p.tables e below (T'.setTop (mkF m 525 #[.val (.long q1), .second, .val (.long q2), .second, .val (.long q3), .second, .val (.long q4), .second, .val (.long q5), .second, .val (.long q6), .second, .val (.long ka), .second, .val (.long kb), .second, .val (.long kc), .second, .val (.long kd), .second, .val (.ref t), .val (.ref f), .val (.int d2), .val (.long s3), .second, .val (.int d3), .val (.ref sa21), .val (.int (2 : Int32))] [])) target → Steps p.tables e below (T35.setTop (mkF m 508 #[.val (.long q1), .second, .val (.long q2), .second, .val (.long q3), .second, .val (.long q4), .second, .val (.long q5), .second, .val (.long q6), .second, .val (.long ka), .second, .val (.long kb), .second, .val (.long kc), .second, .val (.long kd), .second, .val (.ref t), .val (.ref f), .val (.int d2), .val (.long s3), .second, .val (.int d3), .val (.ref sa21), .val (.int (2 : Int32))] [])) target := by
      by_cases hc510 : d2 = (0 : Int32)
      · refine ⟨T35, _, X35, e35, N35, fun target kt => ?_⟩
        show Steps p.tables e below (T35.setTop (mkF m 508 #[.val (.long q1), .second, .val (.long q2), .second, .val (.long q3), .second, .val (.long q4), .second, .val (.long q5), .second, .val (.long q6), .second, .val (.long ka), .second, .val (.long kb), .second, .val (.long kc), .second, .val (.long kd), .second, .val (.ref t), .val (.ref f), .val (.int d2), .val (.long s3), .second, .val (.int d3), .val (.ref sa21), .val (.int (2 : Int32))] [])) _
        refine XS.iload X35.here hx rfl (hb hby at_508) rfl ?_
        refine XS.ifYes X35.here hx rfl (pc0 := 510) (pc' := 525) rfl (hb hby at_510) rfl ((if0 _ _).trans (teq hc510).1) (by decide) (by decide) ?_
        exact kt
      · obtain ⟨_, _, ⟨T37, Lq37, kq37, nq37⟩, -, X37, ⟨Lc37, hQ37, lq37, yq37, zq37⟩, st37⟩ := Jvm.LawKit.callS X35 hx (y := (⟨"com/example/pricewright/pricewright/core/LongSumTableAddPinLaw", "in", "([JJ)Z"⟩ : MethodName)) hown (mvT hZ (hw _ (own_w 95 rfl))) (mvT hZ (hw _ (own_w 96 rfl))) (mvT hZ (hw _ (own_w 2 rfl))) (mvT hZ (hw _ (own_w 97 rfl))) (by decide) (backOf (W := 0) (rmin2 l Z a0 hw [] sa21 kb sk21 y21_0 y21_1 T21.heap n0 Z21 AS21) hZ (hw _ (own_w 97 rfl)) (hw _ (own_w 2 rfl)) (by decide) (by decide)) (g := (mkF m 517 #[.val (.long q1), .second, .val (.long q2), .second, .val (.long q3), .second, .val (.long q4), .second, .val (.long q5), .second, .val (.long q6), .second, .val (.long ka), .second, .val (.long kb), .second, .val (.long kc), .second, .val (.long kd), .second, .val (.ref t), .val (.ref f), .val (.int d2), .val (.long s3), .second, .val (.int d3), .val (.ref sa21), .val (.int (2 : Int32))] [(.long kb), (.ref sa21)])) rfl (by rw [hml]; rfl) (argsL := [(.ref sa21), (.long kb)]) (rest := []) (lenOf pd_14 rfl) rfl (by show 2 * 0 + _ ≤ _; exact Nat.le_of_eq rfl) (hb hby at_517) (fun _ _ => ⟨rfl, e35, (by decide : 11 + 0 ≤ _), (by decide : 82 + 0 ≤ _)⟩)
        dsimp only [Pt.U, Pt.locs, Pt.cells, Pt.slots] at X37 lq37 yq37 zq37 st37 hQ37
        subst lq37 yq37 zq37
        obtain ⟨r37, hr37, rfl, N37q, e37⟩ := hQ37
        have N37 := Fr.app N35 N37q
        refine ⟨T37, _, X37, e37, N37, fun target kt => ?_⟩
        refine XS.iload X35.here hx rfl (hb hby at_508) rfl ?_
        refine XS.ifNo X35.here hx rfl (hb hby at_510) rfl ((if0 _ _).trans (feq hc510).1) ?_
        refine XS.aload X35.here hx rfl (hb hby at_513) rfl rfl ?_
        refine XS.lload X35.here hx rfl (hb hby at_515) rfl ?_
        refine st37 _ ?_
        refine XS.ifYes X37.here hx rfl (pc0 := 520) (pc' := 525) rfl (hb hby at_520) rfl ((if0 _ _).trans (feq (by rw [hr37, if_pos (by have w := (HY _).mp (Or.inr (Or.inl ⟨hc510, rfl⟩)); simpa [eq_comm] using w)]; decide)).2) (by decide) (by decide) ?_
        exact kt
    obtain ⟨T36, L36, X36, e36, N36, st36⟩ := mg36
    have mg38 : ∃ (T' : State) (L' : List Loc), Stand p l e room_1 s m #[.long q1, .long q2, .long q3, .long q4, .long q5, .long q6] below meth c T' L' 11 82 ∧ T'.heap = T21.heap ∧ Fr n0 L' ∧ ∀ target, Steps p.tables e below (T'.setTop (mkF m 542 #[.val (.long q1), .second, .val (.long q2), .second, .val (.long q3), .second, .val (.long q4), .second, .val (.long q5), .second, .val (.long q6), .second, .val (.long ka), .second, .val (.long kb), .second, .val (.long kc), .second, .val (.long kd), .second, .val (.ref t), .val (.ref f), .val (.int d2), .val (.long s3), .second, .val (.int d3), .val (.ref sa21), .val (.int (2 : Int32))] [])) target → Steps p.tables e below (T36.setTop (mkF m 525 #[.val (.long q1), .second, .val (.long q2), .second, .val (.long q3), .second, .val (.long q4), .second, .val (.long q5), .second, .val (.long q6), .second, .val (.long ka), .second, .val (.long kb), .second, .val (.long kc), .second, .val (.long kd), .second, .val (.ref t), .val (.ref f), .val (.int d2), .val (.long s3), .second, .val (.int d3), .val (.ref sa21), .val (.int (2 : Int32))] [])) target := by
      by_cases hc527 : d3 = (0 : Int32)
      · refine ⟨T36, _, X36, e36, N36, fun target kt => ?_⟩
        show Steps p.tables e below (T36.setTop (mkF m 525 #[.val (.long q1), .second, .val (.long q2), .second, .val (.long q3), .second, .val (.long q4), .second, .val (.long q5), .second, .val (.long q6), .second, .val (.long ka), .second, .val (.long kb), .second, .val (.long kc), .second, .val (.long kd), .second, .val (.ref t), .val (.ref f), .val (.int d2), .val (.long s3), .second, .val (.int d3), .val (.ref sa21), .val (.int (2 : Int32))] [])) _
        refine XS.iload X36.here hx rfl (hb hby at_525) rfl ?_
        refine XS.ifYes X36.here hx rfl (pc0 := 527) (pc' := 542) rfl (hb hby at_527) rfl ((if0 _ _).trans (teq hc527).1) (by decide) (by decide) ?_
        exact kt
      · obtain ⟨_, _, ⟨T39, Lq39, kq39, nq39⟩, -, X39, ⟨Lc39, hQ39, lq39, yq39, zq39⟩, st39⟩ := Jvm.LawKit.callS X36 hx (y := (⟨"com/example/pricewright/pricewright/core/LongSumTableAddPinLaw", "in", "([JJ)Z"⟩ : MethodName)) hown (mvT hZ (hw _ (own_w 95 rfl))) (mvT hZ (hw _ (own_w 96 rfl))) (mvT hZ (hw _ (own_w 2 rfl))) (mvT hZ (hw _ (own_w 97 rfl))) (by decide) (backOf (W := 0) (rmin2 l Z a0 hw [] sa21 kc sk21 y21_0 y21_1 T21.heap n0 Z21 AS21) hZ (hw _ (own_w 97 rfl)) (hw _ (own_w 2 rfl)) (by decide) (by decide)) (g := (mkF m 534 #[.val (.long q1), .second, .val (.long q2), .second, .val (.long q3), .second, .val (.long q4), .second, .val (.long q5), .second, .val (.long q6), .second, .val (.long ka), .second, .val (.long kb), .second, .val (.long kc), .second, .val (.long kd), .second, .val (.ref t), .val (.ref f), .val (.int d2), .val (.long s3), .second, .val (.int d3), .val (.ref sa21), .val (.int (2 : Int32))] [(.long kc), (.ref sa21)])) rfl (by rw [hml]; rfl) (argsL := [(.ref sa21), (.long kc)]) (rest := []) (lenOf pd_14 rfl) rfl (by show 2 * 0 + _ ≤ _; exact Nat.le_of_eq rfl) (hb hby at_534) (fun _ _ => ⟨rfl, e36, (by decide : 11 + 0 ≤ _), (by decide : 82 + 0 ≤ _)⟩)
        dsimp only [Pt.U, Pt.locs, Pt.cells, Pt.slots] at X39 lq39 yq39 zq39 st39 hQ39
        subst lq39 yq39 zq39
        obtain ⟨r39, hr39, rfl, N39q, e39⟩ := hQ39
        have N39 := Fr.app N36 N39q
        refine ⟨T39, _, X39, e39, N39, fun target kt => ?_⟩
        refine XS.iload X36.here hx rfl (hb hby at_525) rfl ?_
        refine XS.ifNo X36.here hx rfl (hb hby at_527) rfl ((if0 _ _).trans (feq hc527).1) ?_
        refine XS.aload X36.here hx rfl (hb hby at_530) rfl rfl ?_
        refine XS.lload X36.here hx rfl (hb hby at_532) rfl ?_
        refine st39 _ ?_
        refine XS.ifYes X39.here hx rfl (pc0 := 537) (pc' := 542) rfl (hb hby at_537) rfl ((if0 _ _).trans (feq (by rw [hr39, if_pos (by have w := (HY _).mp (Or.inr (Or.inr ⟨hc527, rfl⟩)); simpa [eq_comm] using w)]; decide)).2) (by decide) (by decide) ?_
        exact kt
    obtain ⟨T38, L38, X38, e38, N38, st38⟩ := mg38
    refine ⟨T38, _, #[.val (.long q1), .second, .val (.long q2), .second, .val (.long q3), .second, .val (.long q4), .second, .val (.long q5), .second, .val (.long q6), .second, .val (.long ka), .second, .val (.long kb), .second, .val (.long kc), .second, .val (.long kd), .second, .val (.ref t), .val (.ref f), .val (.int d2), .val (.long s3), .second, .val (.int d3), .val (.ref sa21), .val (.int (2 : Int32))], X38.more (cells' := 11) (slots' := 83) (by decide) (by decide), N38, fun target kt => ?_⟩
    refine XS.aload X0.here hx rfl (hb hby at_171) rfl rfl ?_
    refine XS.lload X0.here hx rfl (hb hby at_173) rfl ?_
    refine st1.trans ?_
    refine XS.lload X1.here hx rfl (hb hby at_178) rfl ?_
    refine XS.lload X1.here hx rfl (hb hby at_180) rfl ?_
    refine XS.lload X1.here hx rfl (hb hby at_182) rfl ?_
    refine XS.iload X1.here hx rfl (hb hby at_184) rfl ?_
    refine XS.lload X1.here hx rfl (hb hby at_186) rfl ?_
    refine XS.lload X1.here hx rfl (hb hby at_188) rfl ?_
    refine XS.iload X1.here hx rfl (hb hby at_190) rfl ?_
    refine XS.lload X1.here hx rfl (hb hby at_192) rfl ?_
    refine XS.lload X1.here hx rfl (hb hby at_194) rfl ?_
    refine st2 _ ?_
    refine XS.lcmp X2.here hx rfl (hb hby at_199) rfl ?_
    refine XS.ifYes X2.here hx rfl (pc0 := 200) (pc' := 205) rfl (hb hby at_200) rfl ((if0 _ _).trans (teq (own_lceq (by rw [hg1, hr2]; exact (HX _).symm))).1) (by decide) (by decide) ?_
    refine XS.aload X2.here hx rfl (hb hby at_205) rfl rfl ?_
    refine XS.lload X2.here hx rfl (hb hby at_207) rfl ?_
    refine st3.trans ?_
    refine XS.lload X3.here hx rfl (hb hby at_212) rfl ?_
    refine XS.lload X3.here hx rfl (hb hby at_214) rfl ?_
    refine XS.lload X3.here hx rfl (hb hby at_216) rfl ?_
    refine XS.iload X3.here hx rfl (hb hby at_218) rfl ?_
    refine XS.lload X3.here hx rfl (hb hby at_220) rfl ?_
    refine XS.lload X3.here hx rfl (hb hby at_222) rfl ?_
    refine XS.iload X3.here hx rfl (hb hby at_224) rfl ?_
    refine XS.lload X3.here hx rfl (hb hby at_226) rfl ?_
    refine XS.lload X3.here hx rfl (hb hby at_228) rfl ?_
    refine st4 _ ?_
    refine XS.lcmp X4.here hx rfl (hb hby at_233) rfl ?_
    refine XS.ifYes X4.here hx rfl (pc0 := 234) (pc' := 239) rfl (hb hby at_234) rfl ((if0 _ _).trans (teq (own_lceq (by rw [hg3, hr4]; exact (HX _).symm))).1) (by decide) (by decide) ?_
    refine XS.aload X4.here hx rfl (hb hby at_239) rfl rfl ?_
    refine XS.lload X4.here hx rfl (hb hby at_241) rfl ?_
    refine st5.trans ?_
    refine XS.lload X5.here hx rfl (hb hby at_246) rfl ?_
    refine XS.lload X5.here hx rfl (hb hby at_248) rfl ?_
    refine XS.lload X5.here hx rfl (hb hby at_250) rfl ?_
    refine XS.iload X5.here hx rfl (hb hby at_252) rfl ?_
    refine XS.lload X5.here hx rfl (hb hby at_254) rfl ?_
    refine XS.lload X5.here hx rfl (hb hby at_256) rfl ?_
    show Steps p.tables e below (T5.setTop (mkF m 258 #[.val (.long q1), .second, .val (.long q2), .second, .val (.long q3), .second, .val (.long q4), .second, .val (.long q5), .second, .val (.long q6), .second, .val (.long ka), .second, .val (.long kb), .second, .val (.long kc), .second, .val (.long kd), .second, .val (.ref t), .val (.ref f), .val (.int d2), .val (.long s3), .second, .val (.int d3), .unset, .unset] [(.long q5), (.long kb), (.int d2), (.long q4), (.long ka), (.long kc), (.long r5)])) _
    refine XS.iload X5.here hx rfl (hb hby at_258) rfl ?_
    refine XS.lload X5.here hx rfl (hb hby at_260) rfl ?_
    refine XS.lload X5.here hx rfl (hb hby at_262) rfl ?_
    refine st6 _ ?_
    refine XS.lcmp X6.here hx rfl (hb hby at_267) rfl ?_
    refine XS.ifYes X6.here hx rfl (pc0 := 268) (pc' := 273) rfl (hb hby at_268) rfl ((if0 _ _).trans (teq (own_lceq (by rw [hg5, hr6]; exact (HX _).symm))).1) (by decide) (by decide) ?_
    refine XS.aload X6.here hx rfl (hb hby at_273) rfl rfl ?_
    refine XS.lload X6.here hx rfl (hb hby at_275) rfl ?_
    refine st7.trans ?_
    refine XS.lload X7.here hx rfl (hb hby at_280) rfl ?_
    refine XS.lload X7.here hx rfl (hb hby at_282) rfl ?_
    refine XS.lload X7.here hx rfl (hb hby at_284) rfl ?_
    refine XS.iload X7.here hx rfl (hb hby at_286) rfl ?_
    refine XS.lload X7.here hx rfl (hb hby at_288) rfl ?_
    refine XS.lload X7.here hx rfl (hb hby at_290) rfl ?_
    refine XS.iload X7.here hx rfl (hb hby at_292) rfl ?_
    refine XS.lload X7.here hx rfl (hb hby at_294) rfl ?_
    refine XS.lload X7.here hx rfl (hb hby at_296) rfl ?_
    refine st8 _ ?_
    refine XS.lcmp X8.here hx rfl (hb hby at_301) rfl ?_
    refine XS.ifYes X8.here hx rfl (pc0 := 302) (pc' := 307) rfl (hb hby at_302) rfl ((if0 _ _).trans (teq (own_lceq (by rw [hg7, hr8]; exact (HX _).symm))).1) (by decide) (by decide) ?_
    refine XS.aload X8.here hx rfl (hb hby at_307) rfl rfl ?_
    refine st21.trans ?_
    refine XS.astore X21.here hx rfl (hb hby at_312) rfl rfl (l' := #[.val (.long q1), .second, .val (.long q2), .second, .val (.long q3), .second, .val (.long q4), .second, .val (.long q5), .second, .val (.long q6), .second, .val (.long ka), .second, .val (.long kb), .second, .val (.long kc), .second, .val (.long kd), .second, .val (.ref t), .val (.ref f), .val (.int d2), .val (.long s3), .second, .val (.int d3), .val (.ref sa21), .unset]) rfl ?_
    refine XS.iconst X21.here hx rfl (hb hby at_314) ?_
    refine sg22 _ ?_
    refine XS.iadd X21.here hx rfl (hb hby at_333) rfl ?_
    refine sg23 _ ?_
    refine XS.iadd X21.here hx rfl (hb hby at_365) rfl ?_
    show Steps p.tables e below (T21.setTop (mkF m 366 #[.val (.long q1), .second, .val (.long q2), .second, .val (.long q3), .second, .val (.long q4), .second, .val (.long q5), .second, .val (.long q6), .second, .val (.long ka), .second, .val (.long kb), .second, .val (.long kc), .second, .val (.long kd), .second, .val (.ref t), .val (.ref f), .val (.int d2), .val (.long s3), .second, .val (.int d3), .val (.ref sa21), .unset] [(.int (((1 : Int32) + n1) + n2))])) _
    rw [hnz]
    show Steps p.tables e below (T21.setTop (mkF m 366 #[.val (.long q1), .second, .val (.long q2), .second, .val (.long q3), .second, .val (.long q4), .second, .val (.long q5), .second, .val (.long q6), .second, .val (.long ka), .second, .val (.long kb), .second, .val (.long kc), .second, .val (.long kd), .second, .val (.ref t), .val (.ref f), .val (.int d2), .val (.long s3), .second, .val (.int d3), .val (.ref sa21), .unset] [(.int (2 : Int32))])) _
    refine XS.istore X21.here hx rfl (hb hby at_366) rfl (l' := #[.val (.long q1), .second, .val (.long q2), .second, .val (.long q3), .second, .val (.long q4), .second, .val (.long q5), .second, .val (.long q6), .second, .val (.long ka), .second, .val (.long kb), .second, .val (.long kc), .second, .val (.long kd), .second, .val (.ref t), .val (.ref f), .val (.int d2), .val (.long s3), .second, .val (.int d3), .val (.ref sa21), .val (.int (2 : Int32))]) rfl ?_
    refine XS.aload X21.here hx rfl (hb hby at_368) rfl rfl ?_
    refine X21.arraylength hx Ar24.1 (State.isArrayOf_alike hZ.alike Ar24.2.1) (g := (mkF m 370 #[.val (.long q1), .second, .val (.long q2), .second, .val (.long q3), .second, .val (.long q4), .second, .val (.long q5), .second, .val (.long q6), .second, .val (.long ka), .second, .val (.long kb), .second, .val (.long kc), .second, .val (.long kd), .second, .val (.ref t), .val (.ref f), .val (.int d2), .val (.long s3), .second, .val (.int d3), .val (.ref sa21), .val (.int (2 : Int32))] [(.ref sa21)])) rfl rfl (hb hby at_370) _ ?_
    rw [len_of Sz24 Nn24]
    show Steps p.tables e below (T21.setTop (mkF m 371 #[.val (.long q1), .second, .val (.long q2), .second, .val (.long q3), .second, .val (.long q4), .second, .val (.long q5), .second, .val (.long q6), .second, .val (.long ka), .second, .val (.long kb), .second, .val (.long kc), .second, .val (.long kd), .second, .val (.ref t), .val (.ref f), .val (.int d2), .val (.long s3), .second, .val (.int d3), .val (.ref sa21), .val (.int (2 : Int32))] [(.int (2 : Int32))])) _
    refine XS.iload X21.here hx rfl (hb hby at_371) rfl ?_
    refine XS.icmpYes X21.here hx rfl (pc0 := 373) (pc' := 378) rfl (hb hby at_373) rfl (teq (by decide)).1 (by decide) (by decide) ?_
    refine XS.iload X21.here hx rfl (hb hby at_378) rfl ?_
    refine XS.iconst X21.here hx rfl (hb hby at_380) ?_
    refine XS.icmpNo X21.here hx rfl (hb hby at_381) rfl (flt (by decide)).1 ?_
    refine XS.aload X21.here hx rfl (hb hby at_384) rfl rfl ?_
    refine XS.iconst X21.here hx rfl (hb hby at_386) ?_
    refine X21.laload hx (j := (0 : Int32)) (v := (.long y21_0)) Ar25.1 (State.isArrayOf_alike hZ.alike Ar25.2.1) Ar25.2.2 hin26 hat26 (g := (mkF m 387 #[.val (.long q1), .second, .val (.long q2), .second, .val (.long q3), .second, .val (.long q4), .second, .val (.long q5), .second, .val (.long q6), .second, .val (.long ka), .second, .val (.long kb), .second, .val (.long kc), .second, .val (.long kd), .second, .val (.ref t), .val (.ref f), .val (.int d2), .val (.long s3), .second, .val (.int d3), .val (.ref sa21), .val (.int (2 : Int32))] [(.int (0 : Int32)), (.ref sa21)])) rfl rfl (hb hby at_387) _ ?_
    refine XS.aload X21.here hx rfl (hb hby at_388) rfl rfl ?_
    refine XS.iconst X21.here hx rfl (hb hby at_390) ?_
    refine X21.laload hx (j := (1 : Int32)) (v := (.long y21_1)) Ar27.1 (State.isArrayOf_alike hZ.alike Ar27.2.1) Ar27.2.2 hin28 hat28 (g := (mkF m 391 #[.val (.long q1), .second, .val (.long q2), .second, .val (.long q3), .second, .val (.long q4), .second, .val (.long q5), .second, .val (.long q6), .second, .val (.long ka), .second, .val (.long kb), .second, .val (.long kc), .second, .val (.long kd), .second, .val (.ref t), .val (.ref f), .val (.int d2), .val (.long s3), .second, .val (.int d3), .val (.ref sa21), .val (.int (2 : Int32))] [(.int (1 : Int32)), (.ref sa21), (.long y21_0)])) rfl rfl (hb hby at_391) _ ?_
    refine XS.lcmp X21.here hx rfl (hb hby at_392) rfl ?_
    refine XS.ifYes X21.here hx rfl (pc0 := 393) (pc' := 398) rfl (hb hby at_393) rfl ((if0 _ _).trans (tlt (own_lclt str21)).1) (by decide) (by decide) ?_
    refine XS.iload X21.here hx rfl (hb hby at_398) rfl ?_
    refine XS.iconst X21.here hx rfl (hb hby at_400) ?_
    refine XS.icmpYes X21.here hx rfl (pc0 := 401) (pc' := 418) rfl (hb hby at_401) rfl (feq (by decide)).2 (by decide) (by decide) ?_
    refine XS.aload X21.here hx rfl (hb hby at_418) rfl rfl ?_
    refine XS.iconst X21.here hx rfl (hb hby at_420) ?_
    refine X21.laload hx (j := (0 : Int32)) (v := (.long y21_0)) Ar29.1 (State.isArrayOf_alike hZ.alike Ar29.2.1) Ar29.2.2 hin30 hat30 (g := (mkF m 421 #[.val (.long q1), .second, .val (.long q2), .second, .val (.long q3), .second, .val (.long q4), .second, .val (.long q5), .second, .val (.long q6), .second, .val (.long ka), .second, .val (.long kb), .second, .val (.long kc), .second, .val (.long kd), .second, .val (.ref t), .val (.ref f), .val (.int d2), .val (.long s3), .second, .val (.int d3), .val (.ref sa21), .val (.int (2 : Int32))] [(.int (0 : Int32)), (.ref sa21)])) rfl rfl (hb hby at_421) _ ?_
    refine XS.lload X21.here hx rfl (hb hby at_422) rfl ?_
    refine XS.iload X21.here hx rfl (hb hby at_424) rfl ?_
    refine XS.lload X21.here hx rfl (hb hby at_426) rfl ?_
    refine XS.iload X21.here hx rfl (hb hby at_428) rfl ?_
    refine XS.lload X21.here hx rfl (hb hby at_430) rfl ?_
    refine st31 _ ?_
    refine XS.ifYes X31.here hx rfl (pc0 := 435) (pc' := 440) rfl (hb hby at_435) rfl ((if0 _ _).trans (feq (by rw [hr31]; exact own_mem1 ((HY _).mpr (Or.inl rfl)))).2) (by decide) (by decide) ?_
    refine XS.iload X31.here hx rfl (hb hby at_440) rfl ?_
    refine XS.iconst X31.here hx rfl (hb hby at_442) ?_
    refine XS.icmpNo X31.here hx rfl (hb hby at_443) rfl (flt (by decide)).1 ?_
    refine XS.aload X31.here hx rfl (hb hby at_446) rfl rfl ?_
    refine XS.iconst X31.here hx rfl (hb hby at_448) ?_
    refine X31.laload hx (j := (1 : Int32)) (v := (.long y21_1)) (by rw [e31]; exact Ar32.1) (State.isArrayOf_alike hZ.alike Ar32.2.1) Ar32.2.2 hin33 hat33 (g := (mkF m 449 #[.val (.long q1), .second, .val (.long q2), .second, .val (.long q3), .second, .val (.long q4), .second, .val (.long q5), .second, .val (.long q6), .second, .val (.long ka), .second, .val (.long kb), .second, .val (.long kc), .second, .val (.long kd), .second, .val (.ref t), .val (.ref f), .val (.int d2), .val (.long s3), .second, .val (.int d3), .val (.ref sa21), .val (.int (2 : Int32))] [(.int (1 : Int32)), (.ref sa21)])) rfl rfl (hb hby at_449) _ ?_
    refine XS.lload X31.here hx rfl (hb hby at_450) rfl ?_
    refine XS.iload X31.here hx rfl (hb hby at_452) rfl ?_
    refine XS.lload X31.here hx rfl (hb hby at_454) rfl ?_
    refine XS.iload X31.here hx rfl (hb hby at_456) rfl ?_
    refine XS.lload X31.here hx rfl (hb hby at_458) rfl ?_
    refine st34 _ ?_
    refine XS.ifYes X34.here hx rfl (pc0 := 463) (pc' := 468) rfl (hb hby at_463) rfl ((if0 _ _).trans (feq (by rw [hr34]; exact own_mem1 ((HY _).mpr (Or.inr rfl)))).2) (by decide) (by decide) ?_
    refine XS.iload X34.here hx rfl (hb hby at_468) rfl ?_
    show Steps p.tables e below (T34.setTop (mkF m 470 #[.val (.long q1), .second, .val (.long q2), .second, .val (.long q3), .second, .val (.long q4), .second, .val (.long q5), .second, .val (.long q6), .second, .val (.long ka), .second, .val (.long kb), .second, .val (.long kc), .second, .val (.long kd), .second, .val (.ref t), .val (.ref f), .val (.int d2), .val (.long s3), .second, .val (.int d3), .val (.ref sa21), .val (.int (2 : Int32))] [(.int (2 : Int32))])) _
    refine XS.iconst X34.here hx rfl (hb hby at_470) ?_
    refine XS.icmpYes X34.here hx rfl (pc0 := 471) (pc' := 496) rfl (hb hby at_471) rfl (feq (by decide)).2 (by decide) (by decide) ?_
    refine XS.aload X34.here hx rfl (hb hby at_496) rfl rfl ?_
    refine XS.lload X34.here hx rfl (hb hby at_498) rfl ?_
    refine st35 _ ?_
    refine XS.ifYes X35.here hx rfl (pc0 := 503) (pc' := 508) rfl (hb hby at_503) rfl ((if0 _ _).trans (feq (by rw [hr35, if_pos (by have w := (HY _).mp (Or.inl rfl); simpa [eq_comm] using w)]; decide)).2) (by decide) (by decide) ?_
    refine st36 _ ?_
    refine st38 _ ?_
    refine XS.iconst X38.here hx rfl (hb hby at_542) ?_
    exact kt
  · obtain rfl := own_sh61 hn
    obtain ⟨cq40, kz40, q40a, q40b, q40c⟩ := isOf hZ e8 E
    obtain ⟨_, _, ⟨T40, Lq40, kq40, nq40⟩, -, X40, ⟨Lc40, hQ40, lq40, yq40, zq40⟩, st40⟩ := X8.virtualBack hx (y := (⟨"com/example/pricewright/pricewright/core/LongSumTable", "sortedKeys", "()[J"⟩ : MethodName)) (z := (⟨"com/example/pricewright/pricewright/core/LongSumTable", "sortedKeys", "()[J"⟩ : MethodName)) hown (mvT hZ (hw _ (own_w 49 rfl))) (mvT hZ (hw _ (own_w 50 rfl))) (notFace_of_selects (args := #[]) (mvT hZ (hw _ (own_w 52 rfl)))) (mvT hZ (hw _ (own_w 52 rfl))) (mvT hZ (hw _ (own_w 51 rfl))) (by decide) (backOf (W := 0) (rmK8_3 l Z a0 hw [] t a k arr D M h0 n0 Z0 E FS FH FZ FQ AV hta gt Rp) hZ (hw _ (own_w 53 rfl)) (hw _ (own_w 7 rfl)) (by decide) (by decide)) q40a q40c (g := (mkF m 309 #[.val (.long q1), .second, .val (.long q2), .second, .val (.long q3), .second, .val (.long q4), .second, .val (.long q5), .second, .val (.long q6), .second, .val (.long ka), .second, .val (.long kb), .second, .val (.long kc), .second, .val (.long kd), .second, .val (.ref t), .val (.ref f), .val (.int d2), .val (.long s3), .second, .val (.int d3), .unset, .unset] [(.ref t)])) rfl (by rw [hml]; rfl) (Steps.refl _) (argsL := []) (rest := []) (lenOf pd_12 rfl) rfl (by show 2 * 0 + _ ≤ _; exact Nat.le_of_eq rfl) (hb hby at_309) (fun _ _ => ⟨rfl, e8, (by decide : 10 + 1 ≤ _), (by decide : 80 + 3 ≤ _)⟩)
    dsimp only [Pt.U, Pt.locs, Pt.cells, Pt.slots] at X40 lq40 yq40 zq40 st40 hQ40
    subst lq40 yq40 zq40
    obtain ⟨sa40, sk40, y40_0, y40_1, y40_2, rfl, N40q, KC40, gs40, gz40, E40', FS40', FH40', FZ40', FQ40', AS40, str40, mem40⟩ := hQ40
    have N40 := Fr.app N8 N40q
    have Z40 : n0 ≤ T40.heap.size := Nat.le_trans Z0 KC40.1
    have ne40a : t ≠ sa40 := ne_arrV E40' (hw _ (own_w 6 rfl)) AS40
    have ne40b : a ≠ sa40 := Nat.ne_of_lt (Nat.lt_of_lt_of_le AV.lt gz40)
    obtain ⟨n1, hn1⟩ : ∃ z : Int32, z = (if d2 = (0 : Int32) then (0 : Int32) else (if kb = ka then (0 : Int32) else (1 : Int32))) := ⟨_, rfl⟩
    have sg41 : ∀ tg0, Steps p.tables e below (T40.setTop (mkF m 333 #[.val (.long q1), .second, .val (.long q2), .second, .val (.long q3), .second, .val (.long q4), .second, .val (.long q5), .second, .val (.long q6), .second, .val (.long ka), .second, .val (.long kb), .second, .val (.long kc), .second, .val (.long kd), .second, .val (.ref t), .val (.ref f), .val (.int d2), .val (.long s3), .second, .val (.int d3), .val (.ref sa40), .unset] [(.int n1), (.int (1 : Int32))])) tg0 → Steps p.tables e below (T40.setTop (mkF m 315 #[.val (.long q1), .second, .val (.long q2), .second, .val (.long q3), .second, .val (.long q4), .second, .val (.long q5), .second, .val (.long q6), .second, .val (.long ka), .second, .val (.long kb), .second, .val (.long kc), .second, .val (.long kd), .second, .val (.ref t), .val (.ref f), .val (.int d2), .val (.long s3), .second, .val (.int d3), .val (.ref sa40), .unset] [(.int (1 : Int32))])) tg0 := by
      intro tg0 kt
      by_cases hj41_317 : d2 = (0 : Int32)
      · rw [if_pos hj41_317] at hn1
        rw [hn1] at kt
        show Steps p.tables e below (T40.setTop (mkF m 315 #[.val (.long q1), .second, .val (.long q2), .second, .val (.long q3), .second, .val (.long q4), .second, .val (.long q5), .second, .val (.long q6), .second, .val (.long ka), .second, .val (.long kb), .second, .val (.long kc), .second, .val (.long kd), .second, .val (.ref t), .val (.ref f), .val (.int d2), .val (.long s3), .second, .val (.int d3), .val (.ref sa40), .unset] [(.int (1 : Int32))])) _
        refine XS.iload X40.here hx rfl (hb hby at_315) rfl ?_
        refine XS.ifYes X40.here hx rfl (pc0 := 317) (pc' := 332) rfl (hb hby at_317) rfl ((if0 _ _).trans (teq hj41_317).1) (by decide) (by decide) ?_
        refine XS.iconst X40.here hx rfl (hb hby at_332) ?_
        exact kt
      · by_cases hj41_325 : kb = ka
        · rw [if_neg hj41_317, if_pos hj41_325] at hn1
          rw [hn1] at kt
          show Steps p.tables e below (T40.setTop (mkF m 315 #[.val (.long q1), .second, .val (.long q2), .second, .val (.long q3), .second, .val (.long q4), .second, .val (.long q5), .second, .val (.long q6), .second, .val (.long ka), .second, .val (.long kb), .second, .val (.long kc), .second, .val (.long kd), .second, .val (.ref t), .val (.ref f), .val (.int d2), .val (.long s3), .second, .val (.int d3), .val (.ref sa40), .unset] [(.int (1 : Int32))])) _
          refine XS.iload X40.here hx rfl (hb hby at_315) rfl ?_
          refine XS.ifNo X40.here hx rfl (hb hby at_317) rfl ((if0 _ _).trans (feq hj41_317).1) ?_
          refine XS.lload X40.here hx rfl (hb hby at_320) rfl ?_
          refine XS.lload X40.here hx rfl (hb hby at_322) rfl ?_
          refine XS.lcmp X40.here hx rfl (hb hby at_324) rfl ?_
          refine XS.ifYes X40.here hx rfl (pc0 := 325) (pc' := 332) rfl (hb hby at_325) rfl ((if0 _ _).trans (teq (own_lceq hj41_325)).1) (by decide) (by decide) ?_
          refine XS.iconst X40.here hx rfl (hb hby at_332) ?_
          exact kt
        · rw [if_neg hj41_317, if_neg hj41_325] at hn1
          rw [hn1] at kt
          show Steps p.tables e below (T40.setTop (mkF m 315 #[.val (.long q1), .second, .val (.long q2), .second, .val (.long q3), .second, .val (.long q4), .second, .val (.long q5), .second, .val (.long q6), .second, .val (.long ka), .second, .val (.long kb), .second, .val (.long kc), .second, .val (.long kd), .second, .val (.ref t), .val (.ref f), .val (.int d2), .val (.long s3), .second, .val (.int d3), .val (.ref sa40), .unset] [(.int (1 : Int32))])) _
          refine XS.iload X40.here hx rfl (hb hby at_315) rfl ?_
          refine XS.ifNo X40.here hx rfl (hb hby at_317) rfl ((if0 _ _).trans (feq hj41_317).1) ?_
          refine XS.lload X40.here hx rfl (hb hby at_320) rfl ?_
          refine XS.lload X40.here hx rfl (hb hby at_322) rfl ?_
          refine XS.lcmp X40.here hx rfl (hb hby at_324) rfl ?_
          refine XS.ifNo X40.here hx rfl (hb hby at_325) rfl ((if0 _ _).trans (feq (own_lcne hj41_325)).1) ?_
          refine XS.iconst X40.here hx rfl (hb hby at_328) ?_
          refine XS.goto X40.here hx rfl (pc0 := 329) (pc' := 333) rfl (hb hby at_329) (by decide) (by decide) ?_
          exact kt
    obtain ⟨n2, hn2⟩ : ∃ z : Int32, z = (if d3 = (0 : Int32) then (0 : Int32) else (if kc = ka then (0 : Int32) else (if d2 = (0 : Int32) then (1 : Int32) else (if kc = kb then (0 : Int32) else (1 : Int32))))) := ⟨_, rfl⟩
    have sg42 : ∀ tg0, Steps p.tables e below (T40.setTop (mkF m 365 #[.val (.long q1), .second, .val (.long q2), .second, .val (.long q3), .second, .val (.long q4), .second, .val (.long q5), .second, .val (.long q6), .second, .val (.long ka), .second, .val (.long kb), .second, .val (.long kc), .second, .val (.long kd), .second, .val (.ref t), .val (.ref f), .val (.int d2), .val (.long s3), .second, .val (.int d3), .val (.ref sa40), .unset] [(.int n2), (.int ((1 : Int32) + n1))])) tg0 → Steps p.tables e below (T40.setTop (mkF m 334 #[.val (.long q1), .second, .val (.long q2), .second, .val (.long q3), .second, .val (.long q4), .second, .val (.long q5), .second, .val (.long q6), .second, .val (.long ka), .second, .val (.long kb), .second, .val (.long kc), .second, .val (.long kd), .second, .val (.ref t), .val (.ref f), .val (.int d2), .val (.long s3), .second, .val (.int d3), .val (.ref sa40), .unset] [(.int ((1 : Int32) + n1))])) tg0 := by
      intro tg0 kt
      by_cases hj42_336 : d3 = (0 : Int32)
      · rw [if_pos hj42_336] at hn2
        rw [hn2] at kt
        show Steps p.tables e below (T40.setTop (mkF m 334 #[.val (.long q1), .second, .val (.long q2), .second, .val (.long q3), .second, .val (.long q4), .second, .val (.long q5), .second, .val (.long q6), .second, .val (.long ka), .second, .val (.long kb), .second, .val (.long kc), .second, .val (.long kd), .second, .val (.ref t), .val (.ref f), .val (.int d2), .val (.long s3), .second, .val (.int d3), .val (.ref sa40), .unset] [(.int ((1 : Int32) + n1))])) _
        refine XS.iload X40.here hx rfl (hb hby at_334) rfl ?_
        refine XS.ifYes X40.here hx rfl (pc0 := 336) (pc' := 364) rfl (hb hby at_336) rfl ((if0 _ _).trans (teq hj42_336).1) (by decide) (by decide) ?_
        refine XS.iconst X40.here hx rfl (hb hby at_364) ?_
        exact kt
      · by_cases hj42_344 : kc = ka
        · rw [if_neg hj42_336, if_pos hj42_344] at hn2
          rw [hn2] at kt
          show Steps p.tables e below (T40.setTop (mkF m 334 #[.val (.long q1), .second, .val (.long q2), .second, .val (.long q3), .second, .val (.long q4), .second, .val (.long q5), .second, .val (.long q6), .second, .val (.long ka), .second, .val (.long kb), .second, .val (.long kc), .second, .val (.long kd), .second, .val (.ref t), .val (.ref f), .val (.int d2), .val (.long s3), .second, .val (.int d3), .val (.ref sa40), .unset] [(.int ((1 : Int32) + n1))])) _
          refine XS.iload X40.here hx rfl (hb hby at_334) rfl ?_
          refine XS.ifNo X40.here hx rfl (hb hby at_336) rfl ((if0 _ _).trans (feq hj42_336).1) ?_
          refine XS.lload X40.here hx rfl (hb hby at_339) rfl ?_
          refine XS.lload X40.here hx rfl (hb hby at_341) rfl ?_
          refine XS.lcmp X40.here hx rfl (hb hby at_343) rfl ?_
          refine XS.ifYes X40.here hx rfl (pc0 := 344) (pc' := 364) rfl (hb hby at_344) rfl ((if0 _ _).trans (teq (own_lceq hj42_344)).1) (by decide) (by decide) ?_
          refine XS.iconst X40.here hx rfl (hb hby at_364) ?_
          exact kt
        · by_cases hj42_349 : d2 = (0 : Int32)
          · rw [if_neg hj42_336, if_neg hj42_344, if_pos hj42_349] at hn2
            rw [hn2] at kt
            show Steps p.tables e below (T40.setTop (mkF m 334 #[.val (.long q1), .second, .val (.long q2), .second, .val (.long q3), .second, .val (.long q4), .second, .val (.long q5), .second, .val (.long q6), .second, .val (.long ka), .second, .val (.long kb), .second, .val (.long kc), .second, .val (.long kd), .second, .val (.ref t), .val (.ref f), .val (.int d2), .val (.long s3), .second, .val (.int d3), .val (.ref sa40), .unset] [(.int ((1 : Int32) + n1))])) _
            refine XS.iload X40.here hx rfl (hb hby at_334) rfl ?_
            refine XS.ifNo X40.here hx rfl (hb hby at_336) rfl ((if0 _ _).trans (feq hj42_336).1) ?_
            refine XS.lload X40.here hx rfl (hb hby at_339) rfl ?_
            refine XS.lload X40.here hx rfl (hb hby at_341) rfl ?_
            refine XS.lcmp X40.here hx rfl (hb hby at_343) rfl ?_
            refine XS.ifNo X40.here hx rfl (hb hby at_344) rfl ((if0 _ _).trans (feq (own_lcne hj42_344)).1) ?_
            refine XS.iload X40.here hx rfl (hb hby at_347) rfl ?_
            refine XS.ifYes X40.here hx rfl (pc0 := 349) (pc' := 360) rfl (hb hby at_349) rfl ((if0 _ _).trans (teq hj42_349).1) (by decide) (by decide) ?_
            refine XS.iconst X40.here hx rfl (hb hby at_360) ?_
            refine XS.goto X40.here hx rfl (pc0 := 361) (pc' := 365) rfl (hb hby at_361) (by decide) (by decide) ?_
            exact kt
          · by_cases hj42_357 : kc = kb
            · rw [if_neg hj42_336, if_neg hj42_344, if_neg hj42_349, if_pos hj42_357] at hn2
              rw [hn2] at kt
              show Steps p.tables e below (T40.setTop (mkF m 334 #[.val (.long q1), .second, .val (.long q2), .second, .val (.long q3), .second, .val (.long q4), .second, .val (.long q5), .second, .val (.long q6), .second, .val (.long ka), .second, .val (.long kb), .second, .val (.long kc), .second, .val (.long kd), .second, .val (.ref t), .val (.ref f), .val (.int d2), .val (.long s3), .second, .val (.int d3), .val (.ref sa40), .unset] [(.int ((1 : Int32) + n1))])) _
              refine XS.iload X40.here hx rfl (hb hby at_334) rfl ?_
              refine XS.ifNo X40.here hx rfl (hb hby at_336) rfl ((if0 _ _).trans (feq hj42_336).1) ?_
              refine XS.lload X40.here hx rfl (hb hby at_339) rfl ?_
              refine XS.lload X40.here hx rfl (hb hby at_341) rfl ?_
              refine XS.lcmp X40.here hx rfl (hb hby at_343) rfl ?_
              refine XS.ifNo X40.here hx rfl (hb hby at_344) rfl ((if0 _ _).trans (feq (own_lcne hj42_344)).1) ?_
              refine XS.iload X40.here hx rfl (hb hby at_347) rfl ?_
              refine XS.ifNo X40.here hx rfl (hb hby at_349) rfl ((if0 _ _).trans (feq hj42_349).1) ?_
              refine XS.lload X40.here hx rfl (hb hby at_352) rfl ?_
              refine XS.lload X40.here hx rfl (hb hby at_354) rfl ?_
              refine XS.lcmp X40.here hx rfl (hb hby at_356) rfl ?_
              refine XS.ifYes X40.here hx rfl (pc0 := 357) (pc' := 364) rfl (hb hby at_357) rfl ((if0 _ _).trans (teq (own_lceq hj42_357)).1) (by decide) (by decide) ?_
              refine XS.iconst X40.here hx rfl (hb hby at_364) ?_
              exact kt
            · rw [if_neg hj42_336, if_neg hj42_344, if_neg hj42_349, if_neg hj42_357] at hn2
              rw [hn2] at kt
              show Steps p.tables e below (T40.setTop (mkF m 334 #[.val (.long q1), .second, .val (.long q2), .second, .val (.long q3), .second, .val (.long q4), .second, .val (.long q5), .second, .val (.long q6), .second, .val (.long ka), .second, .val (.long kb), .second, .val (.long kc), .second, .val (.long kd), .second, .val (.ref t), .val (.ref f), .val (.int d2), .val (.long s3), .second, .val (.int d3), .val (.ref sa40), .unset] [(.int ((1 : Int32) + n1))])) _
              refine XS.iload X40.here hx rfl (hb hby at_334) rfl ?_
              refine XS.ifNo X40.here hx rfl (hb hby at_336) rfl ((if0 _ _).trans (feq hj42_336).1) ?_
              refine XS.lload X40.here hx rfl (hb hby at_339) rfl ?_
              refine XS.lload X40.here hx rfl (hb hby at_341) rfl ?_
              refine XS.lcmp X40.here hx rfl (hb hby at_343) rfl ?_
              refine XS.ifNo X40.here hx rfl (hb hby at_344) rfl ((if0 _ _).trans (feq (own_lcne hj42_344)).1) ?_
              refine XS.iload X40.here hx rfl (hb hby at_347) rfl ?_
              refine XS.ifNo X40.here hx rfl (hb hby at_349) rfl ((if0 _ _).trans (feq hj42_349).1) ?_
              refine XS.lload X40.here hx rfl (hb hby at_352) rfl ?_
              refine XS.lload X40.here hx rfl (hb hby at_354) rfl ?_
              refine XS.lcmp X40.here hx rfl (hb hby at_356) rfl ?_
              refine XS.ifNo X40.here hx rfl (hb hby at_357) rfl ((if0 _ _).trans (feq (own_lcne hj42_357)).1) ?_
              refine XS.iconst X40.here hx rfl (hb hby at_360) ?_
              refine XS.goto X40.here hx rfl (pc0 := 361) (pc' := 365) rfl (hb hby at_361) (by decide) (by decide) ?_
              exact kt
    have hnz : (((1 : Int32) + n1) + n2) = (3 : Int32) := by rw [hn1, hn2]; exact Hn
    have HY : ∀ x, (x = ka ∨ (¬ d2 = (0 : Int32) ∧ x = kb) ∨ (¬ d3 = (0 : Int32) ∧ x = kc)) ↔ (x = y40_0 ∨ x = y40_1 ∨ x = y40_2) := fun x => (HD x).symm.trans (mem40 x)
    obtain ⟨cl43, Ar43, qk43, Sz43, Nn43, Hh43, Gg43⟩ := id (AS40)
    obtain ⟨cl44, Ar44, qk44, Sz44, Nn44, Hh44, Gg44⟩ := id (AS40)
    have hin45 : ¬ ((0 : Int32) < 0 ∨ cl44.slots.size ≤ ((0 : Int32)).toNatClampNeg) := inb_of Sz44 ⟨by decide, by decide⟩
    have hat45 : cl44.slots[((0 : Int32)).toNatClampNeg]? = some (.long y40_0) := Has.at Hh44 hin45 rfl
    obtain ⟨cl46, Ar46, qk46, Sz46, Nn46, Hh46, Gg46⟩ := id (AS40)
    have hin47 : ¬ ((1 : Int32) < 0 ∨ cl46.slots.size ≤ ((1 : Int32)).toNatClampNeg) := inb_of Sz46 ⟨by decide, by decide⟩
    have hat47 : cl46.slots[((1 : Int32)).toNatClampNeg]? = some (.long y40_1) := Has.at Hh46 hin47 rfl
    obtain ⟨cl48, Ar48, qk48, Sz48, Nn48, Hh48, Gg48⟩ := id (AS40)
    have hin49 : ¬ ((1 : Int32) < 0 ∨ cl48.slots.size ≤ ((1 : Int32)).toNatClampNeg) := inb_of Sz48 ⟨by decide, by decide⟩
    have hat49 : cl48.slots[((1 : Int32)).toNatClampNeg]? = some (.long y40_1) := Has.at Hh48 hin49 rfl
    obtain ⟨cl50, Ar50, qk50, Sz50, Nn50, Hh50, Gg50⟩ := id (AS40)
    have hin51 : ¬ ((2 : Int32) < 0 ∨ cl50.slots.size ≤ ((2 : Int32)).toNatClampNeg) := inb_of Sz50 ⟨by decide, by decide⟩
    have hat51 : cl50.slots[((2 : Int32)).toNatClampNeg]? = some (.long y40_2) := Has.at Hh50 hin51 rfl
    obtain ⟨cl52, Ar52, qk52, Sz52, Nn52, Hh52, Gg52⟩ := id (AS40)
    have hin53 : ¬ ((0 : Int32) < 0 ∨ cl52.slots.size ≤ ((0 : Int32)).toNatClampNeg) := inb_of Sz52 ⟨by decide, by decide⟩
    have hat53 : cl52.slots[((0 : Int32)).toNatClampNeg]? = some (.long y40_0) := Has.at Hh52 hin53 rfl
    obtain ⟨_, _, ⟨T54, Lq54, kq54, nq54⟩, -, X54, ⟨Lc54, hQ54, lq54, yq54, zq54⟩, st54⟩ := Jvm.LawKit.callS X40 hx (y := (⟨"com/example/pricewright/pricewright/core/LongSumTableAddPinLaw", "member", "(JJZJZJ)Z"⟩ : MethodName)) hown (mvT hZ (hw _ (own_w 92 rfl))) (mvT hZ (hw _ (own_w 93 rfl))) (mvT hZ (hw _ (own_w 2 rfl))) (mvT hZ (hw _ (own_w 94 rfl))) (by decide) (backOf (W := 0) (rmm l Z a0 hw [] y40_0 ka d2 kb d3 kc  T40.heap n0 Z40 ) hZ (hw _ (own_w 94 rfl)) (hw _ (own_w 2 rfl)) (by decide) (by decide)) (g := (mkF m 432 #[.val (.long q1), .second, .val (.long q2), .second, .val (.long q3), .second, .val (.long q4), .second, .val (.long q5), .second, .val (.long q6), .second, .val (.long ka), .second, .val (.long kb), .second, .val (.long kc), .second, .val (.long kd), .second, .val (.ref t), .val (.ref f), .val (.int d2), .val (.long s3), .second, .val (.int d3), .val (.ref sa40), .val (.int (3 : Int32))] [(.long kc), (.int d3), (.long kb), (.int d2), (.long ka), (.long y40_0)])) rfl (by rw [hml]; rfl) (argsL := [(.long y40_0), (.long ka), (.int d2), (.long kb), (.int d3), (.long kc)]) (rest := []) (lenOf pd_13 rfl) rfl (by show 2 * 0 + _ ≤ _; exact Nat.le_of_eq rfl) (hb hby at_432) (fun _ _ => ⟨rfl, rfl, (by decide : 11 + 0 ≤ _), (by decide : 83 + 0 ≤ _)⟩)
    dsimp only [Pt.U, Pt.locs, Pt.cells, Pt.slots] at X54 lq54 yq54 zq54 st54 hQ54
    subst lq54 yq54 zq54
    obtain ⟨r54, hr54, rfl, N54q, e54⟩ := hQ54
    have N54 := Fr.app N40 N54q
    obtain ⟨cl55, Ar55, qk55, Sz55, Nn55, Hh55, Gg55⟩ := id (AS40)
    have hin56 : ¬ ((1 : Int32) < 0 ∨ cl55.slots.size ≤ ((1 : Int32)).toNatClampNeg) := inb_of Sz55 ⟨by decide, by decide⟩
    have hat56 : cl55.slots[((1 : Int32)).toNatClampNeg]? = some (.long y40_1) := Has.at Hh55 hin56 rfl
    obtain ⟨_, _, ⟨T57, Lq57, kq57, nq57⟩, -, X57, ⟨Lc57, hQ57, lq57, yq57, zq57⟩, st57⟩ := Jvm.LawKit.callS X54 hx (y := (⟨"com/example/pricewright/pricewright/core/LongSumTableAddPinLaw", "member", "(JJZJZJ)Z"⟩ : MethodName)) hown (mvT hZ (hw _ (own_w 92 rfl))) (mvT hZ (hw _ (own_w 93 rfl))) (mvT hZ (hw _ (own_w 2 rfl))) (mvT hZ (hw _ (own_w 94 rfl))) (by decide) (backOf (W := 0) (rmm l Z a0 hw [] y40_1 ka d2 kb d3 kc  T40.heap n0 Z40 ) hZ (hw _ (own_w 94 rfl)) (hw _ (own_w 2 rfl)) (by decide) (by decide)) (g := (mkF m 460 #[.val (.long q1), .second, .val (.long q2), .second, .val (.long q3), .second, .val (.long q4), .second, .val (.long q5), .second, .val (.long q6), .second, .val (.long ka), .second, .val (.long kb), .second, .val (.long kc), .second, .val (.long kd), .second, .val (.ref t), .val (.ref f), .val (.int d2), .val (.long s3), .second, .val (.int d3), .val (.ref sa40), .val (.int (3 : Int32))] [(.long kc), (.int d3), (.long kb), (.int d2), (.long ka), (.long y40_1)])) rfl (by rw [hml]; rfl) (argsL := [(.long y40_1), (.long ka), (.int d2), (.long kb), (.int d3), (.long kc)]) (rest := []) (lenOf pd_13 rfl) rfl (by show 2 * 0 + _ ≤ _; exact Nat.le_of_eq rfl) (hb hby at_460) (fun _ _ => ⟨rfl, e54, (by decide : 11 + 0 ≤ _), (by decide : 83 + 0 ≤ _)⟩)
    dsimp only [Pt.U, Pt.locs, Pt.cells, Pt.slots] at X57 lq57 yq57 zq57 st57 hQ57
    subst lq57 yq57 zq57
    obtain ⟨r57, hr57, rfl, N57q, e57⟩ := hQ57
    have N57 := Fr.app N54 N57q
    obtain ⟨cl58, Ar58, qk58, Sz58, Nn58, Hh58, Gg58⟩ := id (AS40)
    have hin59 : ¬ ((2 : Int32) < 0 ∨ cl58.slots.size ≤ ((2 : Int32)).toNatClampNeg) := inb_of Sz58 ⟨by decide, by decide⟩
    have hat59 : cl58.slots[((2 : Int32)).toNatClampNeg]? = some (.long y40_2) := Has.at Hh58 hin59 rfl
    obtain ⟨_, _, ⟨T60, Lq60, kq60, nq60⟩, -, X60, ⟨Lc60, hQ60, lq60, yq60, zq60⟩, st60⟩ := Jvm.LawKit.callS X57 hx (y := (⟨"com/example/pricewright/pricewright/core/LongSumTableAddPinLaw", "member", "(JJZJZJ)Z"⟩ : MethodName)) hown (mvT hZ (hw _ (own_w 92 rfl))) (mvT hZ (hw _ (own_w 93 rfl))) (mvT hZ (hw _ (own_w 2 rfl))) (mvT hZ (hw _ (own_w 94 rfl))) (by decide) (backOf (W := 0) (rmm l Z a0 hw [] y40_2 ka d2 kb d3 kc  T40.heap n0 Z40 ) hZ (hw _ (own_w 94 rfl)) (hw _ (own_w 2 rfl)) (by decide) (by decide)) (g := (mkF m 488 #[.val (.long q1), .second, .val (.long q2), .second, .val (.long q3), .second, .val (.long q4), .second, .val (.long q5), .second, .val (.long q6), .second, .val (.long ka), .second, .val (.long kb), .second, .val (.long kc), .second, .val (.long kd), .second, .val (.ref t), .val (.ref f), .val (.int d2), .val (.long s3), .second, .val (.int d3), .val (.ref sa40), .val (.int (3 : Int32))] [(.long kc), (.int d3), (.long kb), (.int d2), (.long ka), (.long y40_2)])) rfl (by rw [hml]; rfl) (argsL := [(.long y40_2), (.long ka), (.int d2), (.long kb), (.int d3), (.long kc)]) (rest := []) (lenOf pd_13 rfl) rfl (by show 2 * 0 + _ ≤ _; exact Nat.le_of_eq rfl) (hb hby at_488) (fun _ _ => ⟨rfl, e57, (by decide : 11 + 0 ≤ _), (by decide : 83 + 0 ≤ _)⟩)
    dsimp only [Pt.U, Pt.locs, Pt.cells, Pt.slots] at X60 lq60 yq60 zq60 st60 hQ60
    subst lq60 yq60 zq60
    obtain ⟨r60, hr60, rfl, N60q, e60⟩ := hQ60
    have N60 := Fr.app N57 N60q
    obtain ⟨_, _, ⟨T61, Lq61, kq61, nq61⟩, -, X61, ⟨Lc61, hQ61, lq61, yq61, zq61⟩, st61⟩ := Jvm.LawKit.callS X60 hx (y := (⟨"com/example/pricewright/pricewright/core/LongSumTableAddPinLaw", "in", "([JJ)Z"⟩ : MethodName)) hown (mvT hZ (hw _ (own_w 95 rfl))) (mvT hZ (hw _ (own_w 96 rfl))) (mvT hZ (hw _ (own_w 2 rfl))) (mvT hZ (hw _ (own_w 97 rfl))) (by decide) (backOf (W := 0) (rmin3 l Z a0 hw [] sa40 ka sk40 y40_0 y40_1 y40_2 T40.heap n0 Z40 AS40) hZ (hw _ (own_w 97 rfl)) (hw _ (own_w 2 rfl)) (by decide) (by decide)) (g := (mkF m 500 #[.val (.long q1), .second, .val (.long q2), .second, .val (.long q3), .second, .val (.long q4), .second, .val (.long q5), .second, .val (.long q6), .second, .val (.long ka), .second, .val (.long kb), .second, .val (.long kc), .second, .val (.long kd), .second, .val (.ref t), .val (.ref f), .val (.int d2), .val (.long s3), .second, .val (.int d3), .val (.ref sa40), .val (.int (3 : Int32))] [(.long ka), (.ref sa40)])) rfl (by rw [hml]; rfl) (argsL := [(.ref sa40), (.long ka)]) (rest := []) (lenOf pd_14 rfl) rfl (by show 2 * 0 + _ ≤ _; exact Nat.le_of_eq rfl) (hb hby at_500) (fun _ _ => ⟨rfl, e60, (by decide : 11 + 0 ≤ _), (by decide : 83 + 0 ≤ _)⟩)
    dsimp only [Pt.U, Pt.locs, Pt.cells, Pt.slots] at X61 lq61 yq61 zq61 st61 hQ61
    subst lq61 yq61 zq61
    obtain ⟨r61, hr61, rfl, N61q, e61⟩ := hQ61
    have N61 := Fr.app N60 N61q
    have mg62 : ∃ (T' : State) (L' : List Loc), Stand p l e room_1 s m #[.long q1, .long q2, .long q3, .long q4, .long q5, .long q6] below meth c T' L' 11 83 ∧ T'.heap = T40.heap ∧ Fr n0 L' ∧ ∀ target, Steps p.tables e below (T'.setTop (mkF m 525 #[.val (.long q1), .second, .val (.long q2), .second, .val (.long q3), .second, .val (.long q4), .second, .val (.long q5), .second, .val (.long q6), .second, .val (.long ka), .second, .val (.long kb), .second, .val (.long kc), .second, .val (.long kd), .second, .val (.ref t), .val (.ref f), .val (.int d2), .val (.long s3), .second, .val (.int d3), .val (.ref sa40), .val (.int (3 : Int32))] [])) target → Steps p.tables e below (T61.setTop (mkF m 508 #[.val (.long q1), .second, .val (.long q2), .second, .val (.long q3), .second, .val (.long q4), .second, .val (.long q5), .second, .val (.long q6), .second, .val (.long ka), .second, .val (.long kb), .second, .val (.long kc), .second, .val (.long kd), .second, .val (.ref t), .val (.ref f), .val (.int d2), .val (.long s3), .second, .val (.int d3), .val (.ref sa40), .val (.int (3 : Int32))] [])) target := by
      by_cases hc510 : d2 = (0 : Int32)
      · refine ⟨T61, _, X61, e61, N61, fun target kt => ?_⟩
        show Steps p.tables e below (T61.setTop (mkF m 508 #[.val (.long q1), .second, .val (.long q2), .second, .val (.long q3), .second, .val (.long q4), .second, .val (.long q5), .second, .val (.long q6), .second, .val (.long ka), .second, .val (.long kb), .second, .val (.long kc), .second, .val (.long kd), .second, .val (.ref t), .val (.ref f), .val (.int d2), .val (.long s3), .second, .val (.int d3), .val (.ref sa40), .val (.int (3 : Int32))] [])) _
        refine XS.iload X61.here hx rfl (hb hby at_508) rfl ?_
        refine XS.ifYes X61.here hx rfl (pc0 := 510) (pc' := 525) rfl (hb hby at_510) rfl ((if0 _ _).trans (teq hc510).1) (by decide) (by decide) ?_
        exact kt
      · obtain ⟨_, _, ⟨T63, Lq63, kq63, nq63⟩, -, X63, ⟨Lc63, hQ63, lq63, yq63, zq63⟩, st63⟩ := Jvm.LawKit.callS X61 hx (y := (⟨"com/example/pricewright/pricewright/core/LongSumTableAddPinLaw", "in", "([JJ)Z"⟩ : MethodName)) hown (mvT hZ (hw _ (own_w 95 rfl))) (mvT hZ (hw _ (own_w 96 rfl))) (mvT hZ (hw _ (own_w 2 rfl))) (mvT hZ (hw _ (own_w 97 rfl))) (by decide) (backOf (W := 0) (rmin3 l Z a0 hw [] sa40 kb sk40 y40_0 y40_1 y40_2 T40.heap n0 Z40 AS40) hZ (hw _ (own_w 97 rfl)) (hw _ (own_w 2 rfl)) (by decide) (by decide)) (g := (mkF m 517 #[.val (.long q1), .second, .val (.long q2), .second, .val (.long q3), .second, .val (.long q4), .second, .val (.long q5), .second, .val (.long q6), .second, .val (.long ka), .second, .val (.long kb), .second, .val (.long kc), .second, .val (.long kd), .second, .val (.ref t), .val (.ref f), .val (.int d2), .val (.long s3), .second, .val (.int d3), .val (.ref sa40), .val (.int (3 : Int32))] [(.long kb), (.ref sa40)])) rfl (by rw [hml]; rfl) (argsL := [(.ref sa40), (.long kb)]) (rest := []) (lenOf pd_14 rfl) rfl (by show 2 * 0 + _ ≤ _; exact Nat.le_of_eq rfl) (hb hby at_517) (fun _ _ => ⟨rfl, e61, (by decide : 11 + 0 ≤ _), (by decide : 83 + 0 ≤ _)⟩)
        dsimp only [Pt.U, Pt.locs, Pt.cells, Pt.slots] at X63 lq63 yq63 zq63 st63 hQ63
        subst lq63 yq63 zq63
        obtain ⟨r63, hr63, rfl, N63q, e63⟩ := hQ63
        have N63 := Fr.app N61 N63q
        refine ⟨T63, _, X63, e63, N63, fun target kt => ?_⟩
        refine XS.iload X61.here hx rfl (hb hby at_508) rfl ?_
        refine XS.ifNo X61.here hx rfl (hb hby at_510) rfl ((if0 _ _).trans (feq hc510).1) ?_
        refine XS.aload X61.here hx rfl (hb hby at_513) rfl rfl ?_
        refine XS.lload X61.here hx rfl (hb hby at_515) rfl ?_
        refine st63 _ ?_
        refine XS.ifYes X63.here hx rfl (pc0 := 520) (pc' := 525) rfl (hb hby at_520) rfl ((if0 _ _).trans (feq (by rw [hr63, if_pos (by have w := (HY _).mp (Or.inr (Or.inl ⟨hc510, rfl⟩)); simpa [eq_comm] using w)]; decide)).2) (by decide) (by decide) ?_
        exact kt
    obtain ⟨T62, L62, X62, e62, N62, st62⟩ := mg62
    have mg64 : ∃ (T' : State) (L' : List Loc), Stand p l e room_1 s m #[.long q1, .long q2, .long q3, .long q4, .long q5, .long q6] below meth c T' L' 11 83 ∧ T'.heap = T40.heap ∧ Fr n0 L' ∧ ∀ target, Steps p.tables e below (T'.setTop (mkF m 542 #[.val (.long q1), .second, .val (.long q2), .second, .val (.long q3), .second, .val (.long q4), .second, .val (.long q5), .second, .val (.long q6), .second, .val (.long ka), .second, .val (.long kb), .second, .val (.long kc), .second, .val (.long kd), .second, .val (.ref t), .val (.ref f), .val (.int d2), .val (.long s3), .second, .val (.int d3), .val (.ref sa40), .val (.int (3 : Int32))] [])) target → Steps p.tables e below (T62.setTop (mkF m 525 #[.val (.long q1), .second, .val (.long q2), .second, .val (.long q3), .second, .val (.long q4), .second, .val (.long q5), .second, .val (.long q6), .second, .val (.long ka), .second, .val (.long kb), .second, .val (.long kc), .second, .val (.long kd), .second, .val (.ref t), .val (.ref f), .val (.int d2), .val (.long s3), .second, .val (.int d3), .val (.ref sa40), .val (.int (3 : Int32))] [])) target := by
      by_cases hc527 : d3 = (0 : Int32)
      · refine ⟨T62, _, X62, e62, N62, fun target kt => ?_⟩
        show Steps p.tables e below (T62.setTop (mkF m 525 #[.val (.long q1), .second, .val (.long q2), .second, .val (.long q3), .second, .val (.long q4), .second, .val (.long q5), .second, .val (.long q6), .second, .val (.long ka), .second, .val (.long kb), .second, .val (.long kc), .second, .val (.long kd), .second, .val (.ref t), .val (.ref f), .val (.int d2), .val (.long s3), .second, .val (.int d3), .val (.ref sa40), .val (.int (3 : Int32))] [])) _
        refine XS.iload X62.here hx rfl (hb hby at_525) rfl ?_
        refine XS.ifYes X62.here hx rfl (pc0 := 527) (pc' := 542) rfl (hb hby at_527) rfl ((if0 _ _).trans (teq hc527).1) (by decide) (by decide) ?_
        exact kt
      · obtain ⟨_, _, ⟨T65, Lq65, kq65, nq65⟩, -, X65, ⟨Lc65, hQ65, lq65, yq65, zq65⟩, st65⟩ := Jvm.LawKit.callS X62 hx (y := (⟨"com/example/pricewright/pricewright/core/LongSumTableAddPinLaw", "in", "([JJ)Z"⟩ : MethodName)) hown (mvT hZ (hw _ (own_w 95 rfl))) (mvT hZ (hw _ (own_w 96 rfl))) (mvT hZ (hw _ (own_w 2 rfl))) (mvT hZ (hw _ (own_w 97 rfl))) (by decide) (backOf (W := 0) (rmin3 l Z a0 hw [] sa40 kc sk40 y40_0 y40_1 y40_2 T40.heap n0 Z40 AS40) hZ (hw _ (own_w 97 rfl)) (hw _ (own_w 2 rfl)) (by decide) (by decide)) (g := (mkF m 534 #[.val (.long q1), .second, .val (.long q2), .second, .val (.long q3), .second, .val (.long q4), .second, .val (.long q5), .second, .val (.long q6), .second, .val (.long ka), .second, .val (.long kb), .second, .val (.long kc), .second, .val (.long kd), .second, .val (.ref t), .val (.ref f), .val (.int d2), .val (.long s3), .second, .val (.int d3), .val (.ref sa40), .val (.int (3 : Int32))] [(.long kc), (.ref sa40)])) rfl (by rw [hml]; rfl) (argsL := [(.ref sa40), (.long kc)]) (rest := []) (lenOf pd_14 rfl) rfl (by show 2 * 0 + _ ≤ _; exact Nat.le_of_eq rfl) (hb hby at_534) (fun _ _ => ⟨rfl, e62, (by decide : 11 + 0 ≤ _), (by decide : 83 + 0 ≤ _)⟩)
        dsimp only [Pt.U, Pt.locs, Pt.cells, Pt.slots] at X65 lq65 yq65 zq65 st65 hQ65
        subst lq65 yq65 zq65
        obtain ⟨r65, hr65, rfl, N65q, e65⟩ := hQ65
        have N65 := Fr.app N62 N65q
        refine ⟨T65, _, X65, e65, N65, fun target kt => ?_⟩
        refine XS.iload X62.here hx rfl (hb hby at_525) rfl ?_
        refine XS.ifNo X62.here hx rfl (hb hby at_527) rfl ((if0 _ _).trans (feq hc527).1) ?_
        refine XS.aload X62.here hx rfl (hb hby at_530) rfl rfl ?_
        refine XS.lload X62.here hx rfl (hb hby at_532) rfl ?_
        refine st65 _ ?_
        refine XS.ifYes X65.here hx rfl (pc0 := 537) (pc' := 542) rfl (hb hby at_537) rfl ((if0 _ _).trans (feq (by rw [hr65, if_pos (by have w := (HY _).mp (Or.inr (Or.inr ⟨hc527, rfl⟩)); simpa [eq_comm] using w)]; decide)).2) (by decide) (by decide) ?_
        exact kt
    obtain ⟨T64, L64, X64, e64, N64, st64⟩ := mg64
    refine ⟨T64, _, #[.val (.long q1), .second, .val (.long q2), .second, .val (.long q3), .second, .val (.long q4), .second, .val (.long q5), .second, .val (.long q6), .second, .val (.long ka), .second, .val (.long kb), .second, .val (.long kc), .second, .val (.long kd), .second, .val (.ref t), .val (.ref f), .val (.int d2), .val (.long s3), .second, .val (.int d3), .val (.ref sa40), .val (.int (3 : Int32))], X64.more (cells' := 11) (slots' := 83) (by decide) (by decide), N64, fun target kt => ?_⟩
    refine XS.aload X0.here hx rfl (hb hby at_171) rfl rfl ?_
    refine XS.lload X0.here hx rfl (hb hby at_173) rfl ?_
    refine st1.trans ?_
    refine XS.lload X1.here hx rfl (hb hby at_178) rfl ?_
    refine XS.lload X1.here hx rfl (hb hby at_180) rfl ?_
    refine XS.lload X1.here hx rfl (hb hby at_182) rfl ?_
    refine XS.iload X1.here hx rfl (hb hby at_184) rfl ?_
    refine XS.lload X1.here hx rfl (hb hby at_186) rfl ?_
    refine XS.lload X1.here hx rfl (hb hby at_188) rfl ?_
    refine XS.iload X1.here hx rfl (hb hby at_190) rfl ?_
    refine XS.lload X1.here hx rfl (hb hby at_192) rfl ?_
    refine XS.lload X1.here hx rfl (hb hby at_194) rfl ?_
    refine st2 _ ?_
    refine XS.lcmp X2.here hx rfl (hb hby at_199) rfl ?_
    refine XS.ifYes X2.here hx rfl (pc0 := 200) (pc' := 205) rfl (hb hby at_200) rfl ((if0 _ _).trans (teq (own_lceq (by rw [hg1, hr2]; exact (HX _).symm))).1) (by decide) (by decide) ?_
    refine XS.aload X2.here hx rfl (hb hby at_205) rfl rfl ?_
    refine XS.lload X2.here hx rfl (hb hby at_207) rfl ?_
    refine st3.trans ?_
    refine XS.lload X3.here hx rfl (hb hby at_212) rfl ?_
    refine XS.lload X3.here hx rfl (hb hby at_214) rfl ?_
    refine XS.lload X3.here hx rfl (hb hby at_216) rfl ?_
    refine XS.iload X3.here hx rfl (hb hby at_218) rfl ?_
    refine XS.lload X3.here hx rfl (hb hby at_220) rfl ?_
    refine XS.lload X3.here hx rfl (hb hby at_222) rfl ?_
    refine XS.iload X3.here hx rfl (hb hby at_224) rfl ?_
    refine XS.lload X3.here hx rfl (hb hby at_226) rfl ?_
    refine XS.lload X3.here hx rfl (hb hby at_228) rfl ?_
    refine st4 _ ?_
    refine XS.lcmp X4.here hx rfl (hb hby at_233) rfl ?_
    refine XS.ifYes X4.here hx rfl (pc0 := 234) (pc' := 239) rfl (hb hby at_234) rfl ((if0 _ _).trans (teq (own_lceq (by rw [hg3, hr4]; exact (HX _).symm))).1) (by decide) (by decide) ?_
    refine XS.aload X4.here hx rfl (hb hby at_239) rfl rfl ?_
    refine XS.lload X4.here hx rfl (hb hby at_241) rfl ?_
    refine st5.trans ?_
    refine XS.lload X5.here hx rfl (hb hby at_246) rfl ?_
    refine XS.lload X5.here hx rfl (hb hby at_248) rfl ?_
    refine XS.lload X5.here hx rfl (hb hby at_250) rfl ?_
    refine XS.iload X5.here hx rfl (hb hby at_252) rfl ?_
    refine XS.lload X5.here hx rfl (hb hby at_254) rfl ?_
    refine XS.lload X5.here hx rfl (hb hby at_256) rfl ?_
    show Steps p.tables e below (T5.setTop (mkF m 258 #[.val (.long q1), .second, .val (.long q2), .second, .val (.long q3), .second, .val (.long q4), .second, .val (.long q5), .second, .val (.long q6), .second, .val (.long ka), .second, .val (.long kb), .second, .val (.long kc), .second, .val (.long kd), .second, .val (.ref t), .val (.ref f), .val (.int d2), .val (.long s3), .second, .val (.int d3), .unset, .unset] [(.long q5), (.long kb), (.int d2), (.long q4), (.long ka), (.long kc), (.long r5)])) _
    refine XS.iload X5.here hx rfl (hb hby at_258) rfl ?_
    refine XS.lload X5.here hx rfl (hb hby at_260) rfl ?_
    refine XS.lload X5.here hx rfl (hb hby at_262) rfl ?_
    refine st6 _ ?_
    refine XS.lcmp X6.here hx rfl (hb hby at_267) rfl ?_
    refine XS.ifYes X6.here hx rfl (pc0 := 268) (pc' := 273) rfl (hb hby at_268) rfl ((if0 _ _).trans (teq (own_lceq (by rw [hg5, hr6]; exact (HX _).symm))).1) (by decide) (by decide) ?_
    refine XS.aload X6.here hx rfl (hb hby at_273) rfl rfl ?_
    refine XS.lload X6.here hx rfl (hb hby at_275) rfl ?_
    refine st7.trans ?_
    refine XS.lload X7.here hx rfl (hb hby at_280) rfl ?_
    refine XS.lload X7.here hx rfl (hb hby at_282) rfl ?_
    refine XS.lload X7.here hx rfl (hb hby at_284) rfl ?_
    refine XS.iload X7.here hx rfl (hb hby at_286) rfl ?_
    refine XS.lload X7.here hx rfl (hb hby at_288) rfl ?_
    refine XS.lload X7.here hx rfl (hb hby at_290) rfl ?_
    refine XS.iload X7.here hx rfl (hb hby at_292) rfl ?_
    refine XS.lload X7.here hx rfl (hb hby at_294) rfl ?_
    refine XS.lload X7.here hx rfl (hb hby at_296) rfl ?_
    refine st8 _ ?_
    refine XS.lcmp X8.here hx rfl (hb hby at_301) rfl ?_
    refine XS.ifYes X8.here hx rfl (pc0 := 302) (pc' := 307) rfl (hb hby at_302) rfl ((if0 _ _).trans (teq (own_lceq (by rw [hg7, hr8]; exact (HX _).symm))).1) (by decide) (by decide) ?_
    refine XS.aload X8.here hx rfl (hb hby at_307) rfl rfl ?_
    refine st40.trans ?_
    refine XS.astore X40.here hx rfl (hb hby at_312) rfl rfl (l' := #[.val (.long q1), .second, .val (.long q2), .second, .val (.long q3), .second, .val (.long q4), .second, .val (.long q5), .second, .val (.long q6), .second, .val (.long ka), .second, .val (.long kb), .second, .val (.long kc), .second, .val (.long kd), .second, .val (.ref t), .val (.ref f), .val (.int d2), .val (.long s3), .second, .val (.int d3), .val (.ref sa40), .unset]) rfl ?_
    refine XS.iconst X40.here hx rfl (hb hby at_314) ?_
    refine sg41 _ ?_
    refine XS.iadd X40.here hx rfl (hb hby at_333) rfl ?_
    refine sg42 _ ?_
    refine XS.iadd X40.here hx rfl (hb hby at_365) rfl ?_
    show Steps p.tables e below (T40.setTop (mkF m 366 #[.val (.long q1), .second, .val (.long q2), .second, .val (.long q3), .second, .val (.long q4), .second, .val (.long q5), .second, .val (.long q6), .second, .val (.long ka), .second, .val (.long kb), .second, .val (.long kc), .second, .val (.long kd), .second, .val (.ref t), .val (.ref f), .val (.int d2), .val (.long s3), .second, .val (.int d3), .val (.ref sa40), .unset] [(.int (((1 : Int32) + n1) + n2))])) _
    rw [hnz]
    show Steps p.tables e below (T40.setTop (mkF m 366 #[.val (.long q1), .second, .val (.long q2), .second, .val (.long q3), .second, .val (.long q4), .second, .val (.long q5), .second, .val (.long q6), .second, .val (.long ka), .second, .val (.long kb), .second, .val (.long kc), .second, .val (.long kd), .second, .val (.ref t), .val (.ref f), .val (.int d2), .val (.long s3), .second, .val (.int d3), .val (.ref sa40), .unset] [(.int (3 : Int32))])) _
    refine XS.istore X40.here hx rfl (hb hby at_366) rfl (l' := #[.val (.long q1), .second, .val (.long q2), .second, .val (.long q3), .second, .val (.long q4), .second, .val (.long q5), .second, .val (.long q6), .second, .val (.long ka), .second, .val (.long kb), .second, .val (.long kc), .second, .val (.long kd), .second, .val (.ref t), .val (.ref f), .val (.int d2), .val (.long s3), .second, .val (.int d3), .val (.ref sa40), .val (.int (3 : Int32))]) rfl ?_
    refine XS.aload X40.here hx rfl (hb hby at_368) rfl rfl ?_
    refine X40.arraylength hx Ar43.1 (State.isArrayOf_alike hZ.alike Ar43.2.1) (g := (mkF m 370 #[.val (.long q1), .second, .val (.long q2), .second, .val (.long q3), .second, .val (.long q4), .second, .val (.long q5), .second, .val (.long q6), .second, .val (.long ka), .second, .val (.long kb), .second, .val (.long kc), .second, .val (.long kd), .second, .val (.ref t), .val (.ref f), .val (.int d2), .val (.long s3), .second, .val (.int d3), .val (.ref sa40), .val (.int (3 : Int32))] [(.ref sa40)])) rfl rfl (hb hby at_370) _ ?_
    rw [len_of Sz43 Nn43]
    show Steps p.tables e below (T40.setTop (mkF m 371 #[.val (.long q1), .second, .val (.long q2), .second, .val (.long q3), .second, .val (.long q4), .second, .val (.long q5), .second, .val (.long q6), .second, .val (.long ka), .second, .val (.long kb), .second, .val (.long kc), .second, .val (.long kd), .second, .val (.ref t), .val (.ref f), .val (.int d2), .val (.long s3), .second, .val (.int d3), .val (.ref sa40), .val (.int (3 : Int32))] [(.int (3 : Int32))])) _
    refine XS.iload X40.here hx rfl (hb hby at_371) rfl ?_
    refine XS.icmpYes X40.here hx rfl (pc0 := 373) (pc' := 378) rfl (hb hby at_373) rfl (teq (by decide)).1 (by decide) (by decide) ?_
    refine XS.iload X40.here hx rfl (hb hby at_378) rfl ?_
    refine XS.iconst X40.here hx rfl (hb hby at_380) ?_
    refine XS.icmpNo X40.here hx rfl (hb hby at_381) rfl (flt (by decide)).1 ?_
    refine XS.aload X40.here hx rfl (hb hby at_384) rfl rfl ?_
    refine XS.iconst X40.here hx rfl (hb hby at_386) ?_
    refine X40.laload hx (j := (0 : Int32)) (v := (.long y40_0)) Ar44.1 (State.isArrayOf_alike hZ.alike Ar44.2.1) Ar44.2.2 hin45 hat45 (g := (mkF m 387 #[.val (.long q1), .second, .val (.long q2), .second, .val (.long q3), .second, .val (.long q4), .second, .val (.long q5), .second, .val (.long q6), .second, .val (.long ka), .second, .val (.long kb), .second, .val (.long kc), .second, .val (.long kd), .second, .val (.ref t), .val (.ref f), .val (.int d2), .val (.long s3), .second, .val (.int d3), .val (.ref sa40), .val (.int (3 : Int32))] [(.int (0 : Int32)), (.ref sa40)])) rfl rfl (hb hby at_387) _ ?_
    refine XS.aload X40.here hx rfl (hb hby at_388) rfl rfl ?_
    refine XS.iconst X40.here hx rfl (hb hby at_390) ?_
    refine X40.laload hx (j := (1 : Int32)) (v := (.long y40_1)) Ar46.1 (State.isArrayOf_alike hZ.alike Ar46.2.1) Ar46.2.2 hin47 hat47 (g := (mkF m 391 #[.val (.long q1), .second, .val (.long q2), .second, .val (.long q3), .second, .val (.long q4), .second, .val (.long q5), .second, .val (.long q6), .second, .val (.long ka), .second, .val (.long kb), .second, .val (.long kc), .second, .val (.long kd), .second, .val (.ref t), .val (.ref f), .val (.int d2), .val (.long s3), .second, .val (.int d3), .val (.ref sa40), .val (.int (3 : Int32))] [(.int (1 : Int32)), (.ref sa40), (.long y40_0)])) rfl rfl (hb hby at_391) _ ?_
    refine XS.lcmp X40.here hx rfl (hb hby at_392) rfl ?_
    refine XS.ifYes X40.here hx rfl (pc0 := 393) (pc' := 398) rfl (hb hby at_393) rfl ((if0 _ _).trans (tlt (own_lclt str40.1)).1) (by decide) (by decide) ?_
    refine XS.iload X40.here hx rfl (hb hby at_398) rfl ?_
    refine XS.iconst X40.here hx rfl (hb hby at_400) ?_
    refine XS.icmpNo X40.here hx rfl (hb hby at_401) rfl (teq (by decide)).2 ?_
    refine XS.aload X40.here hx rfl (hb hby at_404) rfl rfl ?_
    refine XS.iconst X40.here hx rfl (hb hby at_406) ?_
    refine X40.laload hx (j := (1 : Int32)) (v := (.long y40_1)) Ar48.1 (State.isArrayOf_alike hZ.alike Ar48.2.1) Ar48.2.2 hin49 hat49 (g := (mkF m 407 #[.val (.long q1), .second, .val (.long q2), .second, .val (.long q3), .second, .val (.long q4), .second, .val (.long q5), .second, .val (.long q6), .second, .val (.long ka), .second, .val (.long kb), .second, .val (.long kc), .second, .val (.long kd), .second, .val (.ref t), .val (.ref f), .val (.int d2), .val (.long s3), .second, .val (.int d3), .val (.ref sa40), .val (.int (3 : Int32))] [(.int (1 : Int32)), (.ref sa40)])) rfl rfl (hb hby at_407) _ ?_
    refine XS.aload X40.here hx rfl (hb hby at_408) rfl rfl ?_
    refine XS.iconst X40.here hx rfl (hb hby at_410) ?_
    refine X40.laload hx (j := (2 : Int32)) (v := (.long y40_2)) Ar50.1 (State.isArrayOf_alike hZ.alike Ar50.2.1) Ar50.2.2 hin51 hat51 (g := (mkF m 411 #[.val (.long q1), .second, .val (.long q2), .second, .val (.long q3), .second, .val (.long q4), .second, .val (.long q5), .second, .val (.long q6), .second, .val (.long ka), .second, .val (.long kb), .second, .val (.long kc), .second, .val (.long kd), .second, .val (.ref t), .val (.ref f), .val (.int d2), .val (.long s3), .second, .val (.int d3), .val (.ref sa40), .val (.int (3 : Int32))] [(.int (2 : Int32)), (.ref sa40), (.long y40_1)])) rfl rfl (hb hby at_411) _ ?_
    refine XS.lcmp X40.here hx rfl (hb hby at_412) rfl ?_
    refine XS.ifYes X40.here hx rfl (pc0 := 413) (pc' := 418) rfl (hb hby at_413) rfl ((if0 _ _).trans (tlt (own_lclt str40.2)).1) (by decide) (by decide) ?_
    refine XS.aload X40.here hx rfl (hb hby at_418) rfl rfl ?_
    refine XS.iconst X40.here hx rfl (hb hby at_420) ?_
    refine X40.laload hx (j := (0 : Int32)) (v := (.long y40_0)) Ar52.1 (State.isArrayOf_alike hZ.alike Ar52.2.1) Ar52.2.2 hin53 hat53 (g := (mkF m 421 #[.val (.long q1), .second, .val (.long q2), .second, .val (.long q3), .second, .val (.long q4), .second, .val (.long q5), .second, .val (.long q6), .second, .val (.long ka), .second, .val (.long kb), .second, .val (.long kc), .second, .val (.long kd), .second, .val (.ref t), .val (.ref f), .val (.int d2), .val (.long s3), .second, .val (.int d3), .val (.ref sa40), .val (.int (3 : Int32))] [(.int (0 : Int32)), (.ref sa40)])) rfl rfl (hb hby at_421) _ ?_
    refine XS.lload X40.here hx rfl (hb hby at_422) rfl ?_
    refine XS.iload X40.here hx rfl (hb hby at_424) rfl ?_
    refine XS.lload X40.here hx rfl (hb hby at_426) rfl ?_
    refine XS.iload X40.here hx rfl (hb hby at_428) rfl ?_
    refine XS.lload X40.here hx rfl (hb hby at_430) rfl ?_
    refine st54 _ ?_
    refine XS.ifYes X54.here hx rfl (pc0 := 435) (pc' := 440) rfl (hb hby at_435) rfl ((if0 _ _).trans (feq (by rw [hr54]; exact own_mem1 ((HY _).mpr (Or.inl rfl)))).2) (by decide) (by decide) ?_
    refine XS.iload X54.here hx rfl (hb hby at_440) rfl ?_
    refine XS.iconst X54.here hx rfl (hb hby at_442) ?_
    refine XS.icmpNo X54.here hx rfl (hb hby at_443) rfl (flt (by decide)).1 ?_
    refine XS.aload X54.here hx rfl (hb hby at_446) rfl rfl ?_
    refine XS.iconst X54.here hx rfl (hb hby at_448) ?_
    refine X54.laload hx (j := (1 : Int32)) (v := (.long y40_1)) (by rw [e54]; exact Ar55.1) (State.isArrayOf_alike hZ.alike Ar55.2.1) Ar55.2.2 hin56 hat56 (g := (mkF m 449 #[.val (.long q1), .second, .val (.long q2), .second, .val (.long q3), .second, .val (.long q4), .second, .val (.long q5), .second, .val (.long q6), .second, .val (.long ka), .second, .val (.long kb), .second, .val (.long kc), .second, .val (.long kd), .second, .val (.ref t), .val (.ref f), .val (.int d2), .val (.long s3), .second, .val (.int d3), .val (.ref sa40), .val (.int (3 : Int32))] [(.int (1 : Int32)), (.ref sa40)])) rfl rfl (hb hby at_449) _ ?_
    show Steps p.tables e below (T54.setTop (mkF m 450 #[.val (.long q1), .second, .val (.long q2), .second, .val (.long q3), .second, .val (.long q4), .second, .val (.long q5), .second, .val (.long q6), .second, .val (.long ka), .second, .val (.long kb), .second, .val (.long kc), .second, .val (.long kd), .second, .val (.ref t), .val (.ref f), .val (.int d2), .val (.long s3), .second, .val (.int d3), .val (.ref sa40), .val (.int (3 : Int32))] [(.long y40_1)])) _
    refine XS.lload X54.here hx rfl (hb hby at_450) rfl ?_
    refine XS.iload X54.here hx rfl (hb hby at_452) rfl ?_
    refine XS.lload X54.here hx rfl (hb hby at_454) rfl ?_
    refine XS.iload X54.here hx rfl (hb hby at_456) rfl ?_
    refine XS.lload X54.here hx rfl (hb hby at_458) rfl ?_
    refine st57 _ ?_
    refine XS.ifYes X57.here hx rfl (pc0 := 463) (pc' := 468) rfl (hb hby at_463) rfl ((if0 _ _).trans (feq (by rw [hr57]; exact own_mem1 ((HY _).mpr (Or.inr (Or.inl rfl))))).2) (by decide) (by decide) ?_
    refine XS.iload X57.here hx rfl (hb hby at_468) rfl ?_
    refine XS.iconst X57.here hx rfl (hb hby at_470) ?_
    refine XS.icmpNo X57.here hx rfl (hb hby at_471) rfl (teq (by decide)).2 ?_
    refine XS.aload X57.here hx rfl (hb hby at_474) rfl rfl ?_
    refine XS.iconst X57.here hx rfl (hb hby at_476) ?_
    refine X57.laload hx (j := (2 : Int32)) (v := (.long y40_2)) (by rw [e57]; exact Ar58.1) (State.isArrayOf_alike hZ.alike Ar58.2.1) Ar58.2.2 hin59 hat59 (g := (mkF m 477 #[.val (.long q1), .second, .val (.long q2), .second, .val (.long q3), .second, .val (.long q4), .second, .val (.long q5), .second, .val (.long q6), .second, .val (.long ka), .second, .val (.long kb), .second, .val (.long kc), .second, .val (.long kd), .second, .val (.ref t), .val (.ref f), .val (.int d2), .val (.long s3), .second, .val (.int d3), .val (.ref sa40), .val (.int (3 : Int32))] [(.int (2 : Int32)), (.ref sa40)])) rfl rfl (hb hby at_477) _ ?_
    refine XS.lload X57.here hx rfl (hb hby at_478) rfl ?_
    refine XS.iload X57.here hx rfl (hb hby at_480) rfl ?_
    refine XS.lload X57.here hx rfl (hb hby at_482) rfl ?_
    refine XS.iload X57.here hx rfl (hb hby at_484) rfl ?_
    refine XS.lload X57.here hx rfl (hb hby at_486) rfl ?_
    refine st60 _ ?_
    refine XS.ifYes X60.here hx rfl (pc0 := 491) (pc' := 496) rfl (hb hby at_491) rfl ((if0 _ _).trans (feq (by rw [hr60]; exact own_mem1 ((HY _).mpr (Or.inr (Or.inr rfl))))).2) (by decide) (by decide) ?_
    refine XS.aload X60.here hx rfl (hb hby at_496) rfl rfl ?_
    refine XS.lload X60.here hx rfl (hb hby at_498) rfl ?_
    refine st61 _ ?_
    refine XS.ifYes X61.here hx rfl (pc0 := 503) (pc' := 508) rfl (hb hby at_503) rfl ((if0 _ _).trans (feq (by rw [hr61, if_pos (by have w := (HY _).mp (Or.inl rfl); simpa [eq_comm] using w)]; decide)).2) (by decide) (by decide) ?_
    refine st62 _ ?_
    refine st64 _ ?_
    refine XS.iconst X64.here hx rfl (hb hby at_542) ?_
    exact kt
theorem own_neA {Z : State} {h : Heap} {a b : Addr} {k k' : ClassId} {ty ty' : FieldType} {z z' : Int32} {vs vs' : List Value} {d d' : Value} (A : Arv Z h a k ty z vs d) (B : Arv Z h b k' ty' z' vs' d') (hz : z.toNatClampNeg ≠ z'.toNatClampNeg) : a ≠ b := fun e => by
  subst e
  obtain ⟨c, A1, -, A3, -⟩ := A
  obtain ⟨c', B1, -, B3, -⟩ := B
  cases A1.1.symm.trans B1.1
  exact hz (A3.symm.trans B3)
theorem own_len1 {n : Nat} {sh : Int32} (h : (n = 4 ∧ sh = 62) ∨ (n = 8 ∧ sh = 61)) : (1 : Int32).toNatClampNeg ≠ (Int32.ofNat (2 * n)).toNatClampNeg := by rcases h with ⟨rfl, -⟩ | ⟨rfl, -⟩ <;> decide
theorem own_m2 {M : Int64 → Int64} {ka kb q4 s2 : Int64} (hM : ∀ x, M x = if x = ka then (fun _ => (0 : Int64)) ka + q4 else (fun _ => (0 : Int64)) x) (hs : s2 = (if kb = ka then q4 else (0 : Int64))) : M kb = s2 := by
  rw [hM, hs]
  by_cases q : kb = ka
  · rw [if_pos q, if_pos q]; exact Int64.zero_add _
  · rw [if_neg q, if_neg q]
theorem own_m3z {M : Int64 → Int64} {ka kc q4 s3 : Int64} (hM : ∀ x, M x = if x = ka then (fun _ => (0 : Int64)) ka + q4 else (fun _ => (0 : Int64)) x) (hs : s3 = (if kc = ka then (q4 + (0 : Int64)) else ((0 : Int64) + (0 : Int64)))) : M kc = s3 := by
  rw [hM, hs]
  by_cases q : kc = ka
  · rw [if_pos q, if_pos q, Int64.add_zero]; exact Int64.zero_add _
  · rw [if_neg q, if_neg q]; rfl
theorem own_m3 {M M2 : Int64 → Int64} {ka kb kc q4 q5 s3 : Int64} (hM : ∀ x, M x = if x = ka then (fun _ => (0 : Int64)) ka + q4 else (fun _ => (0 : Int64)) x) (hM2 : ∀ x, M2 x = if x = kb then M kb + q5 else M x)
    (hs : s3 = (if kc = ka then (if kc = kb then (q4 + q5) else (q4 + (0 : Int64))) else (if kc = kb then ((0 : Int64) + q5) else ((0 : Int64) + (0 : Int64))))) : M2 kc = s3 := by
  have hM' : ∀ x, M x = if x = ka then q4 else 0 := fun x => by
    rw [hM]; by_cases q : x = ka
    · rw [if_pos q, if_pos q]; exact Int64.zero_add _
    · rw [if_neg q, if_neg q]
  rw [hM2, hs, hM' kb, hM' kc]
  by_cases q1 : kc = kb
  · subst q1
    by_cases q2 : kc = ka
    · simp [q2]
    · simp [q2]
  · by_cases q2 : kc = ka
    · simp only [if_neg q1, if_pos q2, Int64.add_zero]
    · simp only [if_neg q1, if_neg q2, Int64.add_zero]
theorem own_R00 {ka kb kc : Int64} {d2 d3 : Int32} (h2 : d2 = 0) (h3 : d3 = 0) : (((1 : Int32) + (if d2 = (0 : Int32) then (0 : Int32) else (if kb = ka then (0 : Int32) else (1 : Int32)))) + (if d3 = (0 : Int32) then (0 : Int32) else (if kc = ka then (0 : Int32) else (if d2 = (0 : Int32) then (1 : Int32) else (if kc = kb then (0 : Int32) else (1 : Int32)))))) = Int32.ofNat 1 := by simp [h2, h3]
theorem own_R10 {ka kb kc : Int64} {d2 d3 : Int32} {sz2 : Nat} {so2 F : Value} (h2 : ¬ d2 = 0) (h3 : d3 = 0) (e2 : (kb = ka → sz2 = 1 ∧ so2 = F) ∧ (¬ kb = ka → sz2 = 2 ∧ so2 = .null)) :
    ((4 = 4 ∧ sz2 = 1 ∧ so2 = F) ∨ (4 = 4 ∧ sz2 = 2 ∧ so2 = .null) ∨ (4 = 8 ∧ sz2 = 3 ∧ so2 = .null)) ∧ (((1 : Int32) + (if d2 = (0 : Int32) then (0 : Int32) else (if kb = ka then (0 : Int32) else (1 : Int32)))) + (if d3 = (0 : Int32) then (0 : Int32) else (if kc = ka then (0 : Int32) else (if d2 = (0 : Int32) then (1 : Int32) else (if kc = kb then (0 : Int32) else (1 : Int32)))))) = Int32.ofNat sz2 := by
  by_cases q : kb = ka
  · obtain ⟨r1, r2⟩ := e2.1 q
    refine ⟨Or.inl ⟨rfl, r1, r2⟩, ?_⟩
    rw [r1]; simp [h2, h3, q]
  · obtain ⟨r1, r2⟩ := e2.2 q
    refine ⟨Or.inr (Or.inl ⟨rfl, r1, r2⟩), ?_⟩
    rw [r1]; simp [h2, h3, q]
theorem own_R01 {ka kb kc : Int64} {d2 d3 : Int32} {sz2 : Nat} {so2 F : Value} (h2 : d2 = 0) (h3 : ¬ d3 = 0) (e2 : (kc = ka → sz2 = 1 ∧ so2 = F) ∧ (¬ kc = ka → sz2 = 2 ∧ so2 = .null)) :
    ((4 = 4 ∧ sz2 = 1 ∧ so2 = F) ∨ (4 = 4 ∧ sz2 = 2 ∧ so2 = .null) ∨ (4 = 8 ∧ sz2 = 3 ∧ so2 = .null)) ∧ (((1 : Int32) + (if d2 = (0 : Int32) then (0 : Int32) else (if kb = ka then (0 : Int32) else (1 : Int32)))) + (if d3 = (0 : Int32) then (0 : Int32) else (if kc = ka then (0 : Int32) else (if d2 = (0 : Int32) then (1 : Int32) else (if kc = kb then (0 : Int32) else (1 : Int32)))))) = Int32.ofNat sz2 := by
  by_cases q : kc = ka
  · obtain ⟨r1, r2⟩ := e2.1 q
    refine ⟨Or.inl ⟨rfl, r1, r2⟩, ?_⟩
    rw [r1]; simp [h2, h3, q]
  · obtain ⟨r1, r2⟩ := e2.2 q
    refine ⟨Or.inr (Or.inl ⟨rfl, r1, r2⟩), ?_⟩
    rw [r1]; simp [h2, h3, q]
theorem own_R11 {ka kb kc : Int64} {d2 d3 : Int32} {sz2 sz3 n : Nat} {so2 so3 F : Value} (h2 : ¬ d2 = 0) (h3 : ¬ d3 = 0) (e2 : (kb = ka → sz2 = 1 ∧ so2 = F) ∧ (¬ kb = ka → sz2 = 2 ∧ so2 = .null)) (e3 : ((kc = ka ∨ kc = kb) → sz3 = sz2 ∧ so3 = so2) ∧ (¬ (kc = ka ∨ kc = kb) → sz3 = sz2 + 1 ∧ so3 = .null)) (hc : (n = 4 ∧ sz3 ≤ 2) ∨ (n = 8 ∧ sz3 = 3)) :
    ((n = 4 ∧ sz3 = 1 ∧ so3 = F) ∨ (n = 4 ∧ sz3 = 2 ∧ so3 = .null) ∨ (n = 8 ∧ sz3 = 3 ∧ so3 = .null)) ∧ (((1 : Int32) + (if d2 = (0 : Int32) then (0 : Int32) else (if kb = ka then (0 : Int32) else (1 : Int32)))) + (if d3 = (0 : Int32) then (0 : Int32) else (if kc = ka then (0 : Int32) else (if d2 = (0 : Int32) then (1 : Int32) else (if kc = kb then (0 : Int32) else (1 : Int32)))))) = Int32.ofNat sz3 := by
  by_cases q : kb = ka
  · obtain ⟨r1, r2⟩ := e2.1 q
    by_cases p : kc = ka ∨ kc = kb
    · obtain ⟨t1, t2⟩ := e3.1 p
      have pa : kc = ka := p.elim id fun z => z.trans q
      refine ⟨Or.inl ⟨by omega, by omega, t2.trans r2⟩, ?_⟩
      rw [t1, r1]; simp [h2, h3, q, pa]
    · obtain ⟨t1, t2⟩ := e3.2 p
      have pa : ¬ kc = ka := fun z => p (Or.inl z)
      refine ⟨Or.inr (Or.inl ⟨by omega, by omega, t2⟩), ?_⟩
      rw [t1, r1]; simp [h2, h3, q, pa]
  · obtain ⟨r1, r2⟩ := e2.2 q
    by_cases p : kc = ka ∨ kc = kb
    · obtain ⟨t1, t2⟩ := e3.1 p
      refine ⟨Or.inr (Or.inl ⟨by omega, by omega, t2.trans r2⟩), ?_⟩
      rw [t1, r1]
      by_cases pa : kc = ka
      · simp [h2, h3, q, pa]
      · have pb : kc = kb := p.resolve_left pa
        subst pb
        simp [h2, h3, pa]
    · obtain ⟨t1, t2⟩ := e3.2 p
      have pa : ¬ kc = ka := fun z => p (Or.inl z)
      have pb : ¬ kc = kb := fun z => p (Or.inr z)
      refine ⟨Or.inr (Or.inr ⟨by omega, by omega, t2⟩), ?_⟩
      rw [t1, r1]; simp [h2, h3, q, pa, pb]

theorem pd_15 : parseMethodDescriptor "()V" = some ⟨[], none⟩ := by decide +kernel
theorem pd_16 : parseMethodDescriptor "(JJ)Z" = some ⟨[.long, .long], some .boolean⟩ := by decide +kernel
theorem pn_0 : plainName "com/example/pricewright/pricewright/core/LongSumTableAddPinLaw" = true := by first | (simp [plainName, overriddenIn]; done) | decide +kernel
theorem ef_rm0 (m : MethodId) (q1 : Int64) (q2 : Int64) (q3 : Int64) (q4 : Int64) (q5 : Int64) (q6 : Int64) : entryFrame m #[(.long q1), (.long q2), (.long q3), (.long q4), (.long q5), (.long q6)] maxLocals = mkF m 0 #[.val (.long q1), .second, .val (.long q2), .second, .val (.long q3), .second, .val (.long q4), .second, .val (.long q5), .second, .val (.long q6), .second, .unset, .unset, .unset, .unset, .unset, .unset, .unset, .unset, .unset, .unset, .unset, .unset, .unset, .unset, .unset, .unset] [] := by first | (simp [entryFrame, mkF, argsToLocals, Value.category, maxLocals]; done) | rfl
def Qrm0 (Z : State) (q1 : Int64) (q2 : Int64) (q3 : Int64) (q4 : Int64) (q5 : Int64) (q6 : Int64) (h0 : Heap) (n0 : Nat) (v : Option Value) (h : Heap) (L : List Loc) : Prop := v = some (.int 1) ∧ Fr n0 L
set_option maxRecDepth 65536 in
set_option maxHeartbeats 40000000 in
theorem rm0 (l : Launch) (Z : State) (a0 : Array Value) (hw : ∀ d ∈ tables_1, d.before a0 Z = true) (ws : List Jvm.Cond) (q1 : Int64) (q2 : Int64) (q3 : Int64) (q4 : Int64) (q5 : Int64) (q6 : Int64) (h0 : Heap) (n0 : Nat) (Z0 : n0 ≤ h0.size) :
    MetFree l x (head1 (Jvm.Cond.code x code maxLocals ret :: ws) room_1) (fun a U => a = #[(.long q1), (.long q2), (.long q3), (.long q4), (.long q5), (.long q6)] ∧ Z.Warmed39 U.vm ∧ U.heap = h0) (fun _ _ _ _ _ => True) (fun _ U o U' => ∃ v L, o = .returned v ∧ Qrm0 Z q1 q2 q3 q4 q5 q6 h0 n0 v U'.heap L ∧ FrameEnd U o U' L room_1.cells room_1.slots) := by
  refine MetFree.of_bodySF (plainFor_of_name pn_0) hisR ?_
  intro p e s m args below meth c s₁ Bd hml0 hP hK
  obtain ⟨rfl, hZ, hh⟩ := hP
  have hx := Bd.exec
  have hby := Bd.bytes
  have hml : c.maxLocals = 28 := hml0
  have hown : s.vm.findClass "com/example/pricewright/pricewright/core/LongSumTableAddPinLaw" = some m.cls := findClass_of_methodNamed Bd.named
  have hnm := (name_of_methodNamed Bd.named Bd.method).1
  have X0 : Stand p l e room_1 s m #[(.long q1), (.long q2), (.long q3), (.long q4), (.long q5), (.long q6)] below meth c s₁ [] 0 0 := Stand.of_body Bd
  have e0 : s₁.heap = h0 := by rw [← hh, Bd.state]; rfl
  have N0 := Fr.nil n0
  have pre0 : ∀ t, Steps p.tables e below (s₁.setTop (mkF m 0 #[.val (.long q1), .second, .val (.long q2), .second, .val (.long q3), .second, .val (.long q4), .second, .val (.long q5), .second, .val (.long q6), .second, .unset, .unset, .unset, .unset, .unset, .unset, .unset, .unset, .unset, .unset, .unset, .unset, .unset, .unset, .unset, .unset] [])) t → Steps p.tables e below (s₁.setTop (entryFrame m #[(.long q1), (.long q2), (.long q3), (.long q4), (.long q5), (.long q6)] maxLocals)) t := fun t k => castTop (ef_rm0 m q1 q2 q3 q4 q5 q6) k
  obtain ⟨_, _, ⟨T1, Lq1, kq1, nq1⟩, -, X1, ⟨Lc1, hQ1, lq1, yq1, zq1⟩, st1⟩ := Jvm.LawKit.callS X0 hx (y := (⟨"com/example/pricewright/pricewright/core/LongSumTableAddPinLaw", "fix", "(J)J"⟩ : MethodName)) hown (mvT hZ (hw _ (own_w 0 rfl))) (mvT hZ (hw _ (own_w 1 rfl))) (mvT hZ (hw _ (own_w 2 rfl))) (mvT hZ (hw _ (own_w 3 rfl))) (by decide) (backOf (W := 0) (rmf l Z a0 hw [] q1  h0 n0 Z0 ) hZ (hw _ (own_w 3 rfl)) (hw _ (own_w 2 rfl)) (by decide) (by decide)) (g := (mkF m 1 #[.val (.long q1), .second, .val (.long q2), .second, .val (.long q3), .second, .val (.long q4), .second, .val (.long q5), .second, .val (.long q6), .second, .unset, .unset, .unset, .unset, .unset, .unset, .unset, .unset, .unset, .unset, .unset, .unset, .unset, .unset, .unset, .unset] [(.long q1)])) rfl (by rw [hml]; rfl) (argsL := [(.long q1)]) (rest := []) (lenOf pd_4 rfl) rfl (by show 2 * 0 + _ ≤ _; exact Nat.le_of_eq rfl) (hb hby at_1) (fun _ _ => ⟨rfl, e0, (by decide : 0 + 0 ≤ _), (by decide : 0 + 0 ≤ _)⟩)
  dsimp only [Pt.U, Pt.locs, Pt.cells, Pt.slots] at X1 lq1 yq1 zq1 st1 hQ1
  subst lq1 yq1 zq1
  obtain ⟨r1, hr1, rfl, N1q, e1⟩ := hQ1
  have N1 := Fr.app N0 N1q
  obtain ⟨ka, heka⟩ : ∃ z : Int64, z = r1 := ⟨_, rfl⟩
  have hk1 := own_fix hr1
  rw [← heka] at hk1
  obtain ⟨_, _, ⟨T2, Lq2, kq2, nq2⟩, -, X2, ⟨Lc2, hQ2, lq2, yq2, zq2⟩, st2⟩ := Jvm.LawKit.callS X1 hx (y := (⟨"com/example/pricewright/pricewright/core/LongSumTableAddPinLaw", "fix", "(J)J"⟩ : MethodName)) hown (mvT hZ (hw _ (own_w 0 rfl))) (mvT hZ (hw _ (own_w 1 rfl))) (mvT hZ (hw _ (own_w 2 rfl))) (mvT hZ (hw _ (own_w 3 rfl))) (by decide) (backOf (W := 0) (rmf l Z a0 hw [] (q1 + q2)  h0 n0 Z0 ) hZ (hw _ (own_w 3 rfl)) (hw _ (own_w 2 rfl)) (by decide) (by decide)) (g := (mkF m 9 #[.val (.long q1), .second, .val (.long q2), .second, .val (.long q3), .second, .val (.long q4), .second, .val (.long q5), .second, .val (.long q6), .second, .val (.long ka), .second, .unset, .unset, .unset, .unset, .unset, .unset, .unset, .unset, .unset, .unset, .unset, .unset, .unset, .unset] [(.long (q1 + q2))])) rfl (by rw [hml]; rfl) (argsL := [(.long (q1 + q2))]) (rest := []) (lenOf pd_4 rfl) rfl (by show 2 * 0 + _ ≤ _; exact Nat.le_of_eq rfl) (hb hby at_9) (fun _ _ => ⟨rfl, e1, (by decide : 0 + 0 ≤ _), (by decide : 0 + 0 ≤ _)⟩)
  dsimp only [Pt.U, Pt.locs, Pt.cells, Pt.slots] at X2 lq2 yq2 zq2 st2 hQ2
  subst lq2 yq2 zq2
  obtain ⟨r2, hr2, rfl, N2q, e2⟩ := hQ2
  have N2 := Fr.app N1 N2q
  obtain ⟨kb, hekb⟩ : ∃ z : Int64, z = r2 := ⟨_, rfl⟩
  have hk2 := own_fix hr2
  rw [← hekb] at hk2
  obtain ⟨_, _, ⟨T3, Lq3, kq3, nq3⟩, -, X3, ⟨Lc3, hQ3, lq3, yq3, zq3⟩, st3⟩ := Jvm.LawKit.callS X2 hx (y := (⟨"com/example/pricewright/pricewright/core/LongSumTableAddPinLaw", "fix", "(J)J"⟩ : MethodName)) hown (mvT hZ (hw _ (own_w 0 rfl))) (mvT hZ (hw _ (own_w 1 rfl))) (mvT hZ (hw _ (own_w 2 rfl))) (mvT hZ (hw _ (own_w 3 rfl))) (by decide) (backOf (W := 0) (rmf l Z a0 hw [] (kb + q3)  h0 n0 Z0 ) hZ (hw _ (own_w 3 rfl)) (hw _ (own_w 2 rfl)) (by decide) (by decide)) (g := (mkF m 19 #[.val (.long q1), .second, .val (.long q2), .second, .val (.long q3), .second, .val (.long q4), .second, .val (.long q5), .second, .val (.long q6), .second, .val (.long ka), .second, .val (.long kb), .second, .unset, .unset, .unset, .unset, .unset, .unset, .unset, .unset, .unset, .unset, .unset, .unset] [(.long (kb + q3))])) rfl (by rw [hml]; rfl) (argsL := [(.long (kb + q3))]) (rest := []) (lenOf pd_4 rfl) rfl (by show 2 * 0 + _ ≤ _; exact Nat.le_of_eq rfl) (hb hby at_19) (fun _ _ => ⟨rfl, e2, (by decide : 0 + 0 ≤ _), (by decide : 0 + 0 ≤ _)⟩)
  dsimp only [Pt.U, Pt.locs, Pt.cells, Pt.slots] at X3 lq3 yq3 zq3 st3 hQ3
  subst lq3 yq3 zq3
  obtain ⟨r3, hr3, rfl, N3q, e3⟩ := hQ3
  have N3 := Fr.app N2 N3q
  obtain ⟨kc, hekc⟩ : ∃ z : Int64, z = r3 := ⟨_, rfl⟩
  have hk3 := own_fix hr3
  rw [← hekc] at hk3
  obtain ⟨_, _, ⟨T4, Lq4, kq4, nq4⟩, -, X4, ⟨Lc4, hQ4, lq4, yq4, zq4⟩, st4⟩ := Jvm.LawKit.callS X3 hx (y := (⟨"com/example/pricewright/pricewright/core/LongSumTableAddPinLaw", "fix", "(J)J"⟩ : MethodName)) hown (mvT hZ (hw _ (own_w 0 rfl))) (mvT hZ (hw _ (own_w 1 rfl))) (mvT hZ (hw _ (own_w 2 rfl))) (mvT hZ (hw _ (own_w 3 rfl))) (by decide) (backOf (W := 0) (rmf l Z a0 hw [] (ka + (1 : Int64))  h0 n0 Z0 ) hZ (hw _ (own_w 3 rfl)) (hw _ (own_w 2 rfl)) (by decide) (by decide)) (g := (mkF m 28 #[.val (.long q1), .second, .val (.long q2), .second, .val (.long q3), .second, .val (.long q4), .second, .val (.long q5), .second, .val (.long q6), .second, .val (.long ka), .second, .val (.long kb), .second, .val (.long kc), .second, .unset, .unset, .unset, .unset, .unset, .unset, .unset, .unset, .unset, .unset] [(.long (ka + (1 : Int64)))])) rfl (by rw [hml]; rfl) (argsL := [(.long (ka + (1 : Int64)))]) (rest := []) (lenOf pd_4 rfl) rfl (by show 2 * 0 + _ ≤ _; exact Nat.le_of_eq rfl) (hb hby at_28) (fun _ _ => ⟨rfl, e3, (by decide : 0 + 0 ≤ _), (by decide : 0 + 0 ≤ _)⟩)
  dsimp only [Pt.U, Pt.locs, Pt.cells, Pt.slots] at X4 lq4 yq4 zq4 st4 hQ4
  subst lq4 yq4 zq4
  obtain ⟨r4, hr4, rfl, N4q, e4⟩ := hQ4
  have N4 := Fr.app N3 N4q
  obtain ⟨kd, hekd⟩ : ∃ z : Int64, z = r4 := ⟨_, rfl⟩
  have hk4 := own_fix hr4
  rw [← hekd] at hk4
  obtain ⟨T5, h5, X5, e5, E5, A5, D5, -, st5⟩ := newO X4 hx hZ hown (hw _ (own_w 5 rfl)) (hw _ (own_w 6 rfl)) (hw _ (own_w 7 rfl)) e4 (g := (mkF m 33 #[.val (.long q1), .second, .val (.long q2), .second, .val (.long q3), .second, .val (.long q4), .second, .val (.long q5), .second, .val (.long q6), .second, .val (.long ka), .second, .val (.long kb), .second, .val (.long kc), .second, .val (.long kd), .second, .unset, .unset, .unset, .unset, .unset, .unset, .unset, .unset] [])) rfl (hb hby at_33) (by decide) (by decide)
  obtain ⟨b5o, g5⟩ : ∃ z, z = h0.size := ⟨_, rfl⟩
  have b5 : n0 ≤ b5o := Nat.le_trans Z0 (Nat.le_of_eq g5.symm)
  rw [← g5] at A5 D5 st5
  have Z5 : n0 ≤ h5.size := Nat.le_trans Z0 E5.1
  have F5_19 : Fld Z h5 b5o "com/example/pricewright/pricewright/core/LongSumTable" "slots" "[J" .null := D5 (Or.inl (hw _ (own_w 19 rfl))) (ty := (.array .long)) (by decide)
  have F5_31 : Fld Z h5 b5o "com/example/pricewright/pricewright/core/LongSumTable" "shift" "I" (.int (0 : Int32)) := D5 (Or.inl (hw _ (own_w 31 rfl))) (ty := .int) (by decide)
  have F5_46 : Fld Z h5 b5o "com/example/pricewright/pricewright/core/LongSumTable" "sorted" "[J" .null := D5 (Or.inl (hw _ (own_w 46 rfl))) (ty := (.array .long)) (by decide)
  have F5_48 : Fld Z h5 b5o "com/example/pricewright/pricewright/core/LongSumTable" "size" "I" (.int (0 : Int32)) := D5 (Or.inl (hw _ (own_w 48 rfl))) (ty := .int) (by decide)
  obtain ⟨_, _, ⟨T6, Lq6, kq6, nq6⟩, -, X6, ⟨Lc6, hQ6, lq6, yq6, zq6⟩, st6⟩ := X5.specialBack hx (y := (⟨"com/example/pricewright/pricewright/core/LongSumTable", "<init>", "()V"⟩ : MethodName)) rfl hown (mvT hZ (hw _ (own_w 8 rfl))) (mvT hZ (hw _ (own_w 9 rfl))) (mvT hZ (hw _ (own_w 10 rfl))) (by decide) (backOf (W := 1) (rmI0 l Z a0 hw [] b5o  h5 n0 Z5 A5 F5_19 F5_31 F5_48 F5_46 b5) hZ (hw _ (own_w 10 rfl)) (hw _ (own_w 7 rfl)) (by decide) (by decide)) (g := (mkF m 37 #[.val (.long q1), .second, .val (.long q2), .second, .val (.long q3), .second, .val (.long q4), .second, .val (.long q5), .second, .val (.long q6), .second, .val (.long ka), .second, .val (.long kb), .second, .val (.long kc), .second, .val (.long kd), .second, .unset, .unset, .unset, .unset, .unset, .unset, .unset, .unset] [(.ref b5o), (.ref b5o)])) rfl (by rw [hml]; rfl) (Steps.refl _) (a := b5o) (argsL := []) (rest := [(.ref b5o)]) (lenOf pd_15 rfl) rfl (by show 2 * 0 + _ ≤ _; exact Nat.le_of_eq rfl) (hb hby at_37) (fun _ _ => ⟨rfl, e5, (by decide : 1 + 1 ≤ _), (by decide : 4 + 8 ≤ _)⟩)
  dsimp only [Pt.U, Pt.locs, Pt.cells, Pt.slots] at X6 lq6 yq6 zq6 st6 hQ6
  subst lq6 yq6 zq6
  obtain ⟨rfl, N6q, KC6, u6⟩ := hQ6
  have N6 := Fr.app N4 N6q
  have Z6 : n0 ≤ T6.heap.size := Nat.le_trans Z5 KC6.1
  obtain ⟨sa6, sk6, ga6, gk6, EI6, FS6, FH6, FZ6, FQ6, AV6⟩ := id u6
  have net6 : b5o ≠ sa6 := ne_arrV (EI6) (hw _ (own_w 6 rfl)) AV6
  have rp6e := own_rep_empty (W := own_W own_new4) (hs := own_hs 4) own_new4K
  have fr6e : ∃ j, j < 4 ∧ own_K own_new4 j = own_FREE := ⟨0, by decide, own_new4K 0 (by decide)⟩
  obtain ⟨cq7, kz7, q7a, q7b, q7c⟩ := isOf hZ rfl EI6
  obtain ⟨_, _, ⟨T7, Lq7, kq7, nq7⟩, -, X7, ⟨Lc7, hQ7, lq7, yq7, zq7⟩, st7⟩ := X6.virtualBack hx (y := (⟨"com/example/pricewright/pricewright/core/LongSumTable", "add", "(JJ)V"⟩ : MethodName)) (z := (⟨"com/example/pricewright/pricewright/core/LongSumTable", "add", "(JJ)V"⟩ : MethodName)) hown (mvT hZ (hw _ (own_w 32 rfl))) (mvT hZ (hw _ (own_w 33 rfl))) (notFace_of_selects (args := #[]) (mvT hZ (hw _ (own_w 35 rfl)))) (mvT hZ (hw _ (own_w 35 rfl))) (mvT hZ (hw _ (own_w 34 rfl))) (by decide) (backOf (W := 0) (rmA l Z a0 hw [] b5o ka q4 sa6 sk6 own_new4 (fun _ => False) (fun _ => 0) (0) .null T6.heap n0 Z6 EI6 FS6 FH6 FZ6 FQ6 AV6 (rfl : own_new4.length = 2 * 4) net6 b5 ga6 rp6e (Nat.zero_le 2) hk1 (fun h => h.elim)) hZ (hw _ (own_w 36 rfl)) (hw _ (own_w 7 rfl)) (by decide) (by decide)) q7a q7c (g := (mkF m 48 #[.val (.long q1), .second, .val (.long q2), .second, .val (.long q3), .second, .val (.long q4), .second, .val (.long q5), .second, .val (.long q6), .second, .val (.long ka), .second, .val (.long kb), .second, .val (.long kc), .second, .val (.long kd), .second, .val (.ref b5o), .unset, .unset, .unset, .unset, .unset, .unset, .unset] [(.long q4), (.long ka), (.ref b5o)])) rfl (by rw [hml]; rfl) (Steps.refl _) (argsL := [(.long ka), (.long q4)]) (rest := []) (lenOf pd_3 rfl) rfl (by show 2 * 0 + _ ≤ _; exact Nat.le_of_eq rfl) (hb hby at_48) (fun _ _ => ⟨rfl, rfl, (by decide : 2 + 2 ≤ _), (by decide : 12 + 20 ≤ _)⟩)
  dsimp only [Pt.U, Pt.locs, Pt.cells, Pt.slots] at X7 lq7 yq7 zq7 st7 hQ7
  subst lq7 yq7 zq7
  obtain ⟨rfl, N7q, Z7, KA7, nn7, sz7, so7, D7, M7, hD7, hM7, ⟨ta7, tk7, ta7r, ts7, hn7, tg7, tE7, tS7, tH7, tZ7, tQ7, tA7, tl7, tr7⟩, hc7, hl7, hy7, ho7⟩ := hQ7
  have N7 := Fr.app N6 N7q
  obtain ⟨rfl, hz7⟩ : nn7 = 4 ∧ sz7 ≤ 2 := by omega
  obtain rfl := own_sh62 hn7
  have tf7 : ∃ j, j < 4 ∧ own_K ta7r j = own_FREE := own_cnt_free (by rw [tr7.2.2.2]; omega)
  have ne8 : b5o ≠ ta7 := ne_arrV tE7 (hw _ (own_w 6 rfl)) tA7
  obtain ⟨hz7', hso7'⟩ := ho7 (fun h => h.elim)
  subst hz7' hso7'
  obtain ⟨cq9, kz9, q9a, q9b, q9c⟩ := isOf hZ rfl tE7
  obtain ⟨_, _, ⟨T9, Lq9, kq9, nq9⟩, -, X9, ⟨Lc9, hQ9, lq9, yq9, zq9⟩, st9⟩ := X7.virtualBack hx (y := (⟨"com/example/pricewright/pricewright/core/LongSumTable", "sortedKeys", "()[J"⟩ : MethodName)) (z := (⟨"com/example/pricewright/pricewright/core/LongSumTable", "sortedKeys", "()[J"⟩ : MethodName)) hown (mvT hZ (hw _ (own_w 49 rfl))) (mvT hZ (hw _ (own_w 50 rfl))) (notFace_of_selects (args := #[]) (mvT hZ (hw _ (own_w 52 rfl)))) (mvT hZ (hw _ (own_w 52 rfl))) (mvT hZ (hw _ (own_w 51 rfl))) (by decide) (backOf (W := 0) (rmK4_1 l Z a0 hw [] b5o ta7 tk7 ta7r D7 M7 T7.heap n0 Z7 tE7 tS7 tH7 tZ7 tQ7 tA7 ne8 b5 tr7) hZ (hw _ (own_w 53 rfl)) (hw _ (own_w 7 rfl)) (by decide) (by decide)) q9a q9c (g := (mkF m 53 #[.val (.long q1), .second, .val (.long q2), .second, .val (.long q3), .second, .val (.long q4), .second, .val (.long q5), .second, .val (.long q6), .second, .val (.long ka), .second, .val (.long kb), .second, .val (.long kc), .second, .val (.long kd), .second, .val (.ref b5o), .unset, .unset, .unset, .unset, .unset, .unset, .unset] [(.ref b5o)])) rfl (by rw [hml]; rfl) (Steps.refl _) (argsL := []) (rest := []) (lenOf pd_12 rfl) rfl (by show 2 * 0 + _ ≤ _; exact Nat.le_of_eq rfl) (hb hby at_53) (fun _ _ => ⟨rfl, rfl, (by decide : 4 + 1 ≤ _), (by decide : 32 + 1 ≤ _)⟩)
  dsimp only [Pt.U, Pt.locs, Pt.cells, Pt.slots] at X9 lq9 yq9 zq9 st9 hQ9
  subst lq9 yq9 zq9
  obtain ⟨sa9, sk9, y9_0, rfl, N9q, KC9, gs9, gz9, E9', FS9', FH9', FZ9', FQ9', AS9, str9, mem9⟩ := hQ9
  have N9 := Fr.app N7 N9q
  have Z9 : n0 ≤ T9.heap.size := Nat.le_trans Z7 KC9.1
  have ne9a : b5o ≠ sa9 := ne_arrV E9' (hw _ (own_w 6 rfl)) AS9
  have ne9b : ta7 ≠ sa9 := Nat.ne_of_lt (Nat.lt_of_lt_of_le tA7.lt gz9)
  have hy9 : ka = y9_0 := (mem9 ka).mp ((hD7 ka).mpr (Or.inr rfl))
  subst hy9
  obtain ⟨cl10, Ar10, qk10, Sz10, Nn10, Hh10, Gg10⟩ := id (AS9)
  obtain ⟨cl11, Ar11, qk11, Sz11, Nn11, Hh11, Gg11⟩ := id (AS9)
  have hin12 : ¬ ((0 : Int32) < 0 ∨ cl11.slots.size ≤ ((0 : Int32)).toNatClampNeg) := inb_of Sz11 ⟨by decide, by decide⟩
  have hat12 : cl11.slots[((0 : Int32)).toNatClampNeg]? = some (.long ka) := Has.at Hh11 hin12 rfl
  obtain ⟨s2, hs2⟩ : ∃ z : Int64, z = (if kb = ka then q4 else (0 : Int64)) := ⟨_, rfl⟩
  have sg13 : ∀ tg0, Steps p.tables e below (T9.setTop (mkF m 91 #[.val (.long q1), .second, .val (.long q2), .second, .val (.long q3), .second, .val (.long q4), .second, .val (.long q5), .second, .val (.long q6), .second, .val (.long ka), .second, .val (.long kb), .second, .val (.long kc), .second, .val (.long kd), .second, .val (.ref b5o), .val (.ref sa9), .unset, .unset, .unset, .unset, .unset, .unset] [(.long s2)])) tg0 → Steps p.tables e below (T9.setTop (mkF m 77 #[.val (.long q1), .second, .val (.long q2), .second, .val (.long q3), .second, .val (.long q4), .second, .val (.long q5), .second, .val (.long q6), .second, .val (.long ka), .second, .val (.long kb), .second, .val (.long kc), .second, .val (.long kd), .second, .val (.ref b5o), .val (.ref sa9), .unset, .unset, .unset, .unset, .unset, .unset] [])) tg0 := by
    intro tg0 kt
    by_cases hj13_82 : kb = ka
    · rw [if_pos hj13_82] at hs2
      rw [hs2] at kt
      show Steps p.tables e below (T9.setTop (mkF m 77 #[.val (.long q1), .second, .val (.long q2), .second, .val (.long q3), .second, .val (.long q4), .second, .val (.long q5), .second, .val (.long q6), .second, .val (.long ka), .second, .val (.long kb), .second, .val (.long kc), .second, .val (.long kd), .second, .val (.ref b5o), .val (.ref sa9), .unset, .unset, .unset, .unset, .unset, .unset] [])) _
      refine XS.lload X9.here hx rfl (hb hby at_77) rfl ?_
      refine XS.lload X9.here hx rfl (hb hby at_79) rfl ?_
      refine XS.lcmp X9.here hx rfl (hb hby at_81) rfl ?_
      refine XS.ifNo X9.here hx rfl (hb hby at_82) rfl ((if0 _ _).trans (teq (own_lceq hj13_82)).2) ?_
      refine XS.lload X9.here hx rfl (hb hby at_85) rfl ?_
      refine XS.goto X9.here hx rfl (pc0 := 87) (pc' := 91) rfl (hb hby at_87) (by decide) (by decide) ?_
      exact kt
    · rw [if_neg hj13_82] at hs2
      rw [hs2] at kt
      show Steps p.tables e below (T9.setTop (mkF m 77 #[.val (.long q1), .second, .val (.long q2), .second, .val (.long q3), .second, .val (.long q4), .second, .val (.long q5), .second, .val (.long q6), .second, .val (.long ka), .second, .val (.long kb), .second, .val (.long kc), .second, .val (.long kd), .second, .val (.ref b5o), .val (.ref sa9), .unset, .unset, .unset, .unset, .unset, .unset] [])) _
      refine XS.lload X9.here hx rfl (hb hby at_77) rfl ?_
      refine XS.lload X9.here hx rfl (hb hby at_79) rfl ?_
      refine XS.lcmp X9.here hx rfl (hb hby at_81) rfl ?_
      refine XS.ifYes X9.here hx rfl (pc0 := 82) (pc' := 90) rfl (hb hby at_82) rfl ((if0 _ _).trans (feq (own_lcne hj13_82)).2) (by decide) (by decide) ?_
      refine XS.lconst X9.here hx rfl (hb hby at_90) ?_
      exact kt
  obtain ⟨_, _, ⟨T14, Lq14, kq14, nq14⟩, -, X14, ⟨Lc14, hQ14, lq14, yq14, zq14⟩, st14⟩ := Jvm.LawKit.callS X9 hx (y := (⟨"com/example/pricewright/pricewright/core/LongSumTableAddPinLaw", "fits", "(JJ)Z"⟩ : MethodName)) hown (mvT hZ (hw _ (own_w 68 rfl))) (mvT hZ (hw _ (own_w 69 rfl))) (mvT hZ (hw _ (own_w 2 rfl))) (mvT hZ (hw _ (own_w 70 rfl))) (by decide) (backOf (W := 0) (rmt l Z a0 hw [] s2 q5  T9.heap n0 Z9 ) hZ (hw _ (own_w 70 rfl)) (hw _ (own_w 2 rfl)) (by decide) (by decide)) (g := (mkF m 93 #[.val (.long q1), .second, .val (.long q2), .second, .val (.long q3), .second, .val (.long q4), .second, .val (.long q5), .second, .val (.long q6), .second, .val (.long ka), .second, .val (.long kb), .second, .val (.long kc), .second, .val (.long kd), .second, .val (.ref b5o), .val (.ref sa9), .unset, .unset, .unset, .unset, .unset, .unset] [(.long q5), (.long s2)])) rfl (by rw [hml]; rfl) (argsL := [(.long s2), (.long q5)]) (rest := []) (lenOf pd_16 rfl) rfl (by show 2 * 0 + _ ≤ _; exact Nat.le_of_eq rfl) (hb hby at_93) (fun _ _ => ⟨rfl, rfl, (by decide : 5 + 0 ≤ _), (by decide : 33 + 0 ≤ _)⟩)
  dsimp only [Pt.U, Pt.locs, Pt.cells, Pt.slots] at X14 lq14 yq14 zq14 st14 hQ14
  subst lq14 yq14 zq14
  obtain ⟨r14, hr14, rfl, N14q, e14⟩ := hQ14
  have N14 := Fr.app N9 N14q
  by_cases hc100 : r14 = (0 : Int32)
  · obtain ⟨s3, hs3⟩ : ∃ z : Int64, z = (if kc = ka then (q4 + (0 : Int64)) else (0 : Int64)) := ⟨_, rfl⟩
    have sg15 : ∀ tg0, Steps p.tables e below (T14.setTop (mkF m 146 #[.val (.long q1), .second, .val (.long q2), .second, .val (.long q3), .second, .val (.long q4), .second, .val (.long q5), .second, .val (.long q6), .second, .val (.long ka), .second, .val (.long kb), .second, .val (.long kc), .second, .val (.long kd), .second, .val (.ref b5o), .val (.ref sa9), .val (.int r14), .unset, .unset, .unset, .unset, .unset] [(.long s3)])) tg0 → Steps p.tables e below (T14.setTop (mkF m 112 #[.val (.long q1), .second, .val (.long q2), .second, .val (.long q3), .second, .val (.long q4), .second, .val (.long q5), .second, .val (.long q6), .second, .val (.long ka), .second, .val (.long kb), .second, .val (.long kc), .second, .val (.long kd), .second, .val (.ref b5o), .val (.ref sa9), .val (.int r14), .unset, .unset, .unset, .unset, .unset] [])) tg0 := by
      intro tg0 kt
      by_cases hj15_117 : kc = ka
      · rw [if_pos hj15_117] at hs3
        rw [hs3] at kt
        show Steps p.tables e below (T14.setTop (mkF m 112 #[.val (.long q1), .second, .val (.long q2), .second, .val (.long q3), .second, .val (.long q4), .second, .val (.long q5), .second, .val (.long q6), .second, .val (.long ka), .second, .val (.long kb), .second, .val (.long kc), .second, .val (.long kd), .second, .val (.ref b5o), .val (.ref sa9), .val (.int r14), .unset, .unset, .unset, .unset, .unset] [])) _
        refine XS.lload X14.here hx rfl (hb hby at_112) rfl ?_
        refine XS.lload X14.here hx rfl (hb hby at_114) rfl ?_
        refine XS.lcmp X14.here hx rfl (hb hby at_116) rfl ?_
        refine XS.ifNo X14.here hx rfl (hb hby at_117) rfl ((if0 _ _).trans (teq (own_lceq hj15_117)).2) ?_
        refine XS.lload X14.here hx rfl (hb hby at_120) rfl ?_
        refine XS.goto X14.here hx rfl (pc0 := 122) (pc' := 126) rfl (hb hby at_122) (by decide) (by decide) ?_
        refine XS.iload X14.here hx rfl (hb hby at_126) rfl ?_
        refine XS.ifYes X14.here hx rfl (pc0 := 128) (pc' := 144) rfl (hb hby at_128) rfl ((if0 _ _).trans (teq hc100).1) (by decide) (by decide) ?_
        refine XS.lconst X14.here hx rfl (hb hby at_144) ?_
        refine XS.ladd X14.here hx rfl (hb hby at_145) rfl ?_
        exact kt
      · rw [if_neg hj15_117] at hs3
        rw [hs3] at kt
        show Steps p.tables e below (T14.setTop (mkF m 112 #[.val (.long q1), .second, .val (.long q2), .second, .val (.long q3), .second, .val (.long q4), .second, .val (.long q5), .second, .val (.long q6), .second, .val (.long ka), .second, .val (.long kb), .second, .val (.long kc), .second, .val (.long kd), .second, .val (.ref b5o), .val (.ref sa9), .val (.int r14), .unset, .unset, .unset, .unset, .unset] [])) _
        refine XS.lload X14.here hx rfl (hb hby at_112) rfl ?_
        refine XS.lload X14.here hx rfl (hb hby at_114) rfl ?_
        refine XS.lcmp X14.here hx rfl (hb hby at_116) rfl ?_
        refine XS.ifYes X14.here hx rfl (pc0 := 117) (pc' := 125) rfl (hb hby at_117) rfl ((if0 _ _).trans (feq (own_lcne hj15_117)).2) (by decide) (by decide) ?_
        refine XS.lconst X14.here hx rfl (hb hby at_125) ?_
        refine XS.iload X14.here hx rfl (hb hby at_126) rfl ?_
        refine XS.ifYes X14.here hx rfl (pc0 := 128) (pc' := 144) rfl (hb hby at_128) rfl ((if0 _ _).trans (teq hc100).1) (by decide) (by decide) ?_
        refine XS.lconst X14.here hx rfl (hb hby at_144) ?_
        refine XS.ladd X14.here hx rfl (hb hby at_145) rfl ?_
        exact kt
    obtain ⟨_, _, ⟨T16, Lq16, kq16, nq16⟩, -, X16, ⟨Lc16, hQ16, lq16, yq16, zq16⟩, st16⟩ := Jvm.LawKit.callS X14 hx (y := (⟨"com/example/pricewright/pricewright/core/LongSumTableAddPinLaw", "fits", "(JJ)Z"⟩ : MethodName)) hown (mvT hZ (hw _ (own_w 68 rfl))) (mvT hZ (hw _ (own_w 69 rfl))) (mvT hZ (hw _ (own_w 2 rfl))) (mvT hZ (hw _ (own_w 70 rfl))) (by decide) (backOf (W := 0) (rmt l Z a0 hw [] s3 q6  T9.heap n0 Z9 ) hZ (hw _ (own_w 70 rfl)) (hw _ (own_w 2 rfl)) (by decide) (by decide)) (g := (mkF m 152 #[.val (.long q1), .second, .val (.long q2), .second, .val (.long q3), .second, .val (.long q4), .second, .val (.long q5), .second, .val (.long q6), .second, .val (.long ka), .second, .val (.long kb), .second, .val (.long kc), .second, .val (.long kd), .second, .val (.ref b5o), .val (.ref sa9), .val (.int r14), .val (.long s3), .second, .unset, .unset, .unset] [(.long q6), (.long s3)])) rfl (by rw [hml]; rfl) (argsL := [(.long s3), (.long q6)]) (rest := []) (lenOf pd_16 rfl) rfl (by show 2 * 0 + _ ≤ _; exact Nat.le_of_eq rfl) (hb hby at_152) (fun _ _ => ⟨rfl, e14, (by decide : 5 + 0 ≤ _), (by decide : 33 + 0 ≤ _)⟩)
    dsimp only [Pt.U, Pt.locs, Pt.cells, Pt.slots] at X16 lq16 yq16 zq16 st16 hQ16
    subst lq16 yq16 zq16
    obtain ⟨r16, hr16, rfl, N16q, e16⟩ := hQ16
    have N16 := Fr.app N14 N16q
    by_cases hc159 : r16 = (0 : Int32)
    · have HX : ∀ x, own_exp x ka q4 r14 kb q5 r16 kc q6 = M7 x := fun x => (own_pZ hc159 (own_pZ hc100 (own_p1 hM7)))
      have HD : ∀ x, D7 x ↔ (x = ka ∨ (¬ r14 = (0 : Int32) ∧ x = kb) ∨ (¬ r16 = (0 : Int32) ∧ x = kc)) := fun x => by simp only [hD7]; simp [hc100, hc159, or_assoc]
      have HN := own_R00 (ka := ka) (kb := kb) (kc := kc) hc100 hc159
      have Xm17 := X16.more (cells' := 10) (slots' := 80) (by decide) (by decide)
      have f18 := (tA7.keep KC9 (ninS (Ne.symm ne8) nin0))
      obtain ⟨T17, L17, Ls17, X17, N17, st17⟩ := own_tail (n := 4) (arr := ta7r) (sh := (62 : Int32)) (sz := 1) (so := (.ref sa9)) (d2 := r14) (d3 := r16) hx hZ hw hby hml hown Xm17 e16 N16 Z9 (Or.inl ⟨rfl, rfl⟩) E9' FS9' FH9' FZ9' FQ9' f18 AS9 b5 ne8 (Ne.symm ne9a) (Ne.symm ne9b) tf7 tr7 hk1 hk2 hk3 hk4 HX HD (Or.inl ⟨rfl, rfl, rfl⟩) HN
      obtain ⟨fs, hr, hrun, hended, hW, hsame⟩ := X17.leave (v := some (.int (1 : Int32))) (fun h => by rw [Bd.returns] at h; cases h) (BodyLoose.notSynchronized Bd)
      refine ⟨_, _, pre0 _ ?_, hrun, hended, _, _, rfl, ?_, ⟨_, rfl⟩, hW, hsame.mono (by decide) (by decide)⟩
      · show Steps p.tables e below (s₁.setTop (mkF m 0 #[.val (.long q1), .second, .val (.long q2), .second, .val (.long q3), .second, .val (.long q4), .second, .val (.long q5), .second, .val (.long q6), .second, .unset, .unset, .unset, .unset, .unset, .unset, .unset, .unset, .unset, .unset, .unset, .unset, .unset, .unset, .unset, .unset] [])) _
        refine XS.lloadN X0.here hx rfl (hb hby at_0) rfl ?_
        refine st1 _ ?_
        refine XS.lstore X1.here hx rfl (hb hby at_4) rfl (l' := #[.val (.long q1), .second, .val (.long q2), .second, .val (.long q3), .second, .val (.long q4), .second, .val (.long q5), .second, .val (.long q6), .second, .val (.long r1), .second, .unset, .unset, .unset, .unset, .unset, .unset, .unset, .unset, .unset, .unset, .unset, .unset, .unset, .unset]) rfl ?_
        show Steps p.tables e below (T1.setTop (mkF m 6 #[.val (.long q1), .second, .val (.long q2), .second, .val (.long q3), .second, .val (.long q4), .second, .val (.long q5), .second, .val (.long q6), .second, .val (.long r1), .second, .unset, .unset, .unset, .unset, .unset, .unset, .unset, .unset, .unset, .unset, .unset, .unset, .unset, .unset] [])) _
        rw [← heka]
        show Steps p.tables e below (T1.setTop (mkF m 6 #[.val (.long q1), .second, .val (.long q2), .second, .val (.long q3), .second, .val (.long q4), .second, .val (.long q5), .second, .val (.long q6), .second, .val (.long ka), .second, .unset, .unset, .unset, .unset, .unset, .unset, .unset, .unset, .unset, .unset, .unset, .unset, .unset, .unset] [])) _
        refine XS.lloadN X1.here hx rfl (hb hby at_6) rfl ?_
        refine XS.lloadN X1.here hx rfl (hb hby at_7) rfl ?_
        refine XS.ladd X1.here hx rfl (hb hby at_8) rfl ?_
        refine st2 _ ?_
        refine XS.lstore X2.here hx rfl (hb hby at_12) rfl (l' := #[.val (.long q1), .second, .val (.long q2), .second, .val (.long q3), .second, .val (.long q4), .second, .val (.long q5), .second, .val (.long q6), .second, .val (.long ka), .second, .val (.long r2), .second, .unset, .unset, .unset, .unset, .unset, .unset, .unset, .unset, .unset, .unset, .unset, .unset]) rfl ?_
        show Steps p.tables e below (T2.setTop (mkF m 14 #[.val (.long q1), .second, .val (.long q2), .second, .val (.long q3), .second, .val (.long q4), .second, .val (.long q5), .second, .val (.long q6), .second, .val (.long ka), .second, .val (.long r2), .second, .unset, .unset, .unset, .unset, .unset, .unset, .unset, .unset, .unset, .unset, .unset, .unset] [])) _
        rw [← hekb]
        show Steps p.tables e below (T2.setTop (mkF m 14 #[.val (.long q1), .second, .val (.long q2), .second, .val (.long q3), .second, .val (.long q4), .second, .val (.long q5), .second, .val (.long q6), .second, .val (.long ka), .second, .val (.long kb), .second, .unset, .unset, .unset, .unset, .unset, .unset, .unset, .unset, .unset, .unset, .unset, .unset] [])) _
        refine XS.lload X2.here hx rfl (hb hby at_14) rfl ?_
        refine XS.lload X2.here hx rfl (hb hby at_16) rfl ?_
        refine XS.ladd X2.here hx rfl (hb hby at_18) rfl ?_
        refine st3 _ ?_
        refine XS.lstore X3.here hx rfl (hb hby at_22) rfl (l' := #[.val (.long q1), .second, .val (.long q2), .second, .val (.long q3), .second, .val (.long q4), .second, .val (.long q5), .second, .val (.long q6), .second, .val (.long ka), .second, .val (.long kb), .second, .val (.long r3), .second, .unset, .unset, .unset, .unset, .unset, .unset, .unset, .unset, .unset, .unset]) rfl ?_
        show Steps p.tables e below (T3.setTop (mkF m 24 #[.val (.long q1), .second, .val (.long q2), .second, .val (.long q3), .second, .val (.long q4), .second, .val (.long q5), .second, .val (.long q6), .second, .val (.long ka), .second, .val (.long kb), .second, .val (.long r3), .second, .unset, .unset, .unset, .unset, .unset, .unset, .unset, .unset, .unset, .unset] [])) _
        rw [← hekc]
        show Steps p.tables e below (T3.setTop (mkF m 24 #[.val (.long q1), .second, .val (.long q2), .second, .val (.long q3), .second, .val (.long q4), .second, .val (.long q5), .second, .val (.long q6), .second, .val (.long ka), .second, .val (.long kb), .second, .val (.long kc), .second, .unset, .unset, .unset, .unset, .unset, .unset, .unset, .unset, .unset, .unset] [])) _
        refine XS.lload X3.here hx rfl (hb hby at_24) rfl ?_
        refine XS.lconst X3.here hx rfl (hb hby at_26) ?_
        refine XS.ladd X3.here hx rfl (hb hby at_27) rfl ?_
        refine st4 _ ?_
        refine XS.lstore X4.here hx rfl (hb hby at_31) rfl (l' := #[.val (.long q1), .second, .val (.long q2), .second, .val (.long q3), .second, .val (.long q4), .second, .val (.long q5), .second, .val (.long q6), .second, .val (.long ka), .second, .val (.long kb), .second, .val (.long kc), .second, .val (.long r4), .second, .unset, .unset, .unset, .unset, .unset, .unset, .unset, .unset]) rfl ?_
        show Steps p.tables e below (T4.setTop (mkF m 33 #[.val (.long q1), .second, .val (.long q2), .second, .val (.long q3), .second, .val (.long q4), .second, .val (.long q5), .second, .val (.long q6), .second, .val (.long ka), .second, .val (.long kb), .second, .val (.long kc), .second, .val (.long r4), .second, .unset, .unset, .unset, .unset, .unset, .unset, .unset, .unset] [])) _
        rw [← hekd]
        show Steps p.tables e below (T4.setTop (mkF m 33 #[.val (.long q1), .second, .val (.long q2), .second, .val (.long q3), .second, .val (.long q4), .second, .val (.long q5), .second, .val (.long q6), .second, .val (.long ka), .second, .val (.long kb), .second, .val (.long kc), .second, .val (.long kd), .second, .unset, .unset, .unset, .unset, .unset, .unset, .unset, .unset] [])) _
        refine st5 _ ?_
        refine XS.dup X5.here hx rfl (hb hby at_36) rfl rfl ?_
        refine st6.trans ?_
        refine XS.astore X6.here hx rfl (hb hby at_40) rfl rfl (l' := #[.val (.long q1), .second, .val (.long q2), .second, .val (.long q3), .second, .val (.long q4), .second, .val (.long q5), .second, .val (.long q6), .second, .val (.long ka), .second, .val (.long kb), .second, .val (.long kc), .second, .val (.long kd), .second, .val (.ref b5o), .unset, .unset, .unset, .unset, .unset, .unset, .unset]) rfl ?_
        refine XS.aload X6.here hx rfl (hb hby at_42) rfl rfl ?_
        refine XS.lload X6.here hx rfl (hb hby at_44) rfl ?_
        refine XS.lload X6.here hx rfl (hb hby at_46) rfl ?_
        refine st7.trans ?_
        refine XS.aload X7.here hx rfl (hb hby at_51) rfl rfl ?_
        refine st9.trans ?_
        refine XS.astore X9.here hx rfl (hb hby at_56) rfl rfl (l' := #[.val (.long q1), .second, .val (.long q2), .second, .val (.long q3), .second, .val (.long q4), .second, .val (.long q5), .second, .val (.long q6), .second, .val (.long ka), .second, .val (.long kb), .second, .val (.long kc), .second, .val (.long kd), .second, .val (.ref b5o), .val (.ref sa9), .unset, .unset, .unset, .unset, .unset, .unset]) rfl ?_
        refine XS.aload X9.here hx rfl (hb hby at_58) rfl rfl ?_
        refine X9.arraylength hx Ar10.1 (State.isArrayOf_alike hZ.alike Ar10.2.1) (g := (mkF m 60 #[.val (.long q1), .second, .val (.long q2), .second, .val (.long q3), .second, .val (.long q4), .second, .val (.long q5), .second, .val (.long q6), .second, .val (.long ka), .second, .val (.long kb), .second, .val (.long kc), .second, .val (.long kd), .second, .val (.ref b5o), .val (.ref sa9), .unset, .unset, .unset, .unset, .unset, .unset] [(.ref sa9)])) rfl rfl (hb hby at_60) _ ?_
        rw [len_of Sz10 Nn10]
        show Steps p.tables e below (T9.setTop (mkF m 61 #[.val (.long q1), .second, .val (.long q2), .second, .val (.long q3), .second, .val (.long q4), .second, .val (.long q5), .second, .val (.long q6), .second, .val (.long ka), .second, .val (.long kb), .second, .val (.long kc), .second, .val (.long kd), .second, .val (.ref b5o), .val (.ref sa9), .unset, .unset, .unset, .unset, .unset, .unset] [(.int (1 : Int32))])) _
        refine XS.iconst X9.here hx rfl (hb hby at_61) ?_
        refine XS.icmpNo X9.here hx rfl (hb hby at_62) rfl (teq (by decide)).2 ?_
        refine XS.aload X9.here hx rfl (hb hby at_65) rfl rfl ?_
        refine XS.iconst X9.here hx rfl (hb hby at_67) ?_
        refine X9.laload hx (j := (0 : Int32)) (v := (.long ka)) Ar11.1 (State.isArrayOf_alike hZ.alike Ar11.2.1) Ar11.2.2 hin12 hat12 (g := (mkF m 68 #[.val (.long q1), .second, .val (.long q2), .second, .val (.long q3), .second, .val (.long q4), .second, .val (.long q5), .second, .val (.long q6), .second, .val (.long ka), .second, .val (.long kb), .second, .val (.long kc), .second, .val (.long kd), .second, .val (.ref b5o), .val (.ref sa9), .unset, .unset, .unset, .unset, .unset, .unset] [(.int (0 : Int32)), (.ref sa9)])) rfl rfl (hb hby at_68) _ ?_
        refine XS.lload X9.here hx rfl (hb hby at_69) rfl ?_
        refine XS.lcmp X9.here hx rfl (hb hby at_71) rfl ?_
        refine XS.ifYes X9.here hx rfl (pc0 := 72) (pc' := 77) rfl (hb hby at_72) rfl ((if0 _ _).trans (teq (own_lceq rfl)).1) (by decide) (by decide) ?_
        refine sg13 _ ?_
        refine XS.lload X9.here hx rfl (hb hby at_91) rfl ?_
        refine st14 _ ?_
        refine XS.istore X14.here hx rfl (hb hby at_96) rfl (l' := #[.val (.long q1), .second, .val (.long q2), .second, .val (.long q3), .second, .val (.long q4), .second, .val (.long q5), .second, .val (.long q6), .second, .val (.long ka), .second, .val (.long kb), .second, .val (.long kc), .second, .val (.long kd), .second, .val (.ref b5o), .val (.ref sa9), .val (.int r14), .unset, .unset, .unset, .unset, .unset]) rfl ?_
        refine XS.iload X14.here hx rfl (hb hby at_98) rfl ?_
        refine XS.ifYes X14.here hx rfl (pc0 := 100) (pc' := 112) rfl (hb hby at_100) rfl ((if0 _ _).trans (teq hc100).1) (by decide) (by decide) ?_
        refine sg15 _ ?_
        refine XS.lstore X14.here hx rfl (hb hby at_146) rfl (l' := #[.val (.long q1), .second, .val (.long q2), .second, .val (.long q3), .second, .val (.long q4), .second, .val (.long q5), .second, .val (.long q6), .second, .val (.long ka), .second, .val (.long kb), .second, .val (.long kc), .second, .val (.long kd), .second, .val (.ref b5o), .val (.ref sa9), .val (.int r14), .val (.long s3), .second, .unset, .unset, .unset]) rfl ?_
        refine XS.lload X14.here hx rfl (hb hby at_148) rfl ?_
        refine XS.lload X14.here hx rfl (hb hby at_150) rfl ?_
        refine st16 _ ?_
        refine XS.istore X16.here hx rfl (hb hby at_155) rfl (l' := #[.val (.long q1), .second, .val (.long q2), .second, .val (.long q3), .second, .val (.long q4), .second, .val (.long q5), .second, .val (.long q6), .second, .val (.long ka), .second, .val (.long kb), .second, .val (.long kc), .second, .val (.long kd), .second, .val (.ref b5o), .val (.ref sa9), .val (.int r14), .val (.long s3), .second, .val (.int r16), .unset, .unset]) rfl ?_
        refine XS.iload X16.here hx rfl (hb hby at_157) rfl ?_
        refine XS.ifYes X16.here hx rfl (pc0 := 159) (pc' := 171) rfl (hb hby at_159) rfl ((if0 _ _).trans (teq hc159).1) (by decide) (by decide) ?_
        refine st17 _ ?_
        show Steps p.tables e below (T17.setTop (mkF m 543 Ls17 [(.int (1 : Int32))])) _
        exact retN X17 hx (t := .boolean) Bd.returns (by simp) (hb hby at_543) hr
      · show Qrm0 Z q1 q2 q3 q4 q5 q6 h0 n0 _ T17.heap _
        exact ⟨rfl, N17⟩
    · have f20 := (tA7.keep KC9 (ninS (Ne.symm ne8) nin0))
      have wv21m := own_m3z hM7 hs3
      have wv21 := own_fits_ok (show ¬ own_fits s3 q6 = (0 : Int32) by rw [← hr16]; exact hc159)
      obtain ⟨cq19, kz19, q19a, q19b, q19c⟩ := isOf hZ e16 E9'
      obtain ⟨_, _, ⟨T19, Lq19, kq19, nq19⟩, -, X19, ⟨Lc19, hQ19, lq19, yq19, zq19⟩, st19⟩ := X16.virtualBack hx (y := (⟨"com/example/pricewright/pricewright/core/LongSumTable", "add", "(JJ)V"⟩ : MethodName)) (z := (⟨"com/example/pricewright/pricewright/core/LongSumTable", "add", "(JJ)V"⟩ : MethodName)) hown (mvT hZ (hw _ (own_w 32 rfl))) (mvT hZ (hw _ (own_w 33 rfl))) (notFace_of_selects (args := #[]) (mvT hZ (hw _ (own_w 35 rfl)))) (mvT hZ (hw _ (own_w 35 rfl))) (mvT hZ (hw _ (own_w 34 rfl))) (by decide) (backOf (W := 0) (rmA l Z a0 hw [] b5o kc q6 ta7 tk7 ta7r D7 M7 (1) (.ref sa9) T9.heap n0 Z9 E9' FS9' FH9' FZ9' FQ9' f20 tl7 ne8 b5 tg7 tr7 (by decide) hk3 (fun _ => own_ovf (by rw [wv21m]; exact wv21.1) (by rw [wv21m]; exact wv21.2))) hZ (hw _ (own_w 36 rfl)) (hw _ (own_w 7 rfl)) (by decide) (by decide)) q19a q19c (g := (mkF m 168 #[.val (.long q1), .second, .val (.long q2), .second, .val (.long q3), .second, .val (.long q4), .second, .val (.long q5), .second, .val (.long q6), .second, .val (.long ka), .second, .val (.long kb), .second, .val (.long kc), .second, .val (.long kd), .second, .val (.ref b5o), .val (.ref sa9), .val (.int r14), .val (.long s3), .second, .val (.int r16), .unset, .unset] [(.long q6), (.long kc), (.ref b5o)])) rfl (by rw [hml]; rfl) (Steps.refl _) (argsL := [(.long kc), (.long q6)]) (rest := []) (lenOf pd_3 rfl) rfl (by show 2 * 0 + _ ≤ _; exact Nat.le_of_eq rfl) (hb hby at_168) (fun _ _ => ⟨rfl, e16, (by decide : 5 + 2 ≤ _), (by decide : 33 + 20 ≤ _)⟩)
      dsimp only [Pt.U, Pt.locs, Pt.cells, Pt.slots] at X19 lq19 yq19 zq19 st19 hQ19
      subst lq19 yq19 zq19
      obtain ⟨rfl, N19q, Z19, KA19, nn19, sz19, so19, D19, M19, hD19, hM19, ⟨ta19, tk19, ta19r, ts19, hn19, tg19, tE19, tS19, tH19, tZ19, tQ19, tA19, tl19, tr19⟩, hc19, hl19, hy19, ho19⟩ := hQ19
      have N19 := Fr.app N16 N19q
      obtain ⟨rfl, hz19⟩ : nn19 = 4 ∧ sz19 ≤ 2 := by omega
      obtain rfl := own_sh62 hn19
      have tf19 : ∃ j, j < 4 ∧ own_K ta19r j = own_FREE := own_cnt_free (by rw [tr19.2.2.2]; omega)
      have ne22 : b5o ≠ ta19 := ne_arrV tE19 (hw _ (own_w 6 rfl)) tA19
      have f23 := (AS9.keep KA19 (ninS (Ne.symm ne9a) (ninS (Ne.symm ne9b) nin0)))
      have nf24 : sa9 ≠ ta19 := own_neA f23 tA19 (by decide)
      have HX : ∀ x, own_exp x ka q4 r14 kb q5 r16 kc q6 = M19 x := fun x => (own_pY hc159 hM19 (own_pZ hc100 (own_p1 hM7)))
      have HD : ∀ x, D19 x ↔ (x = ka ∨ (¬ r14 = (0 : Int32) ∧ x = kb) ∨ (¬ r16 = (0 : Int32) ∧ x = kc)) := fun x => by simp only [hD19, hD7]; simp [hc100, hc159, or_assoc]
      have e3 : (kc = ka → sz19 = 1 ∧ so19 = (.ref sa9)) ∧ (¬ kc = ka → sz19 = 2 ∧ so19 = .null) := ⟨fun w => hy19 ((hD7 kc).mpr (Or.inr w)), fun w => ho19 (fun v => w (((hD7 kc).mp v).elim (fun z => z.elim) id))⟩
      have HH := own_R01 (kb := kb) hc100 hc159 e3
      have Xm25 := X19.more (cells' := 10) (slots' := 80) (by decide) (by decide)
      obtain ⟨T25, L25, Ls25, X25, N25, st25⟩ := own_tail (n := 4) (arr := ta19r) (sh := (62 : Int32)) (sz := sz19) (so := so19) (d2 := r14) (d3 := r16) hx hZ hw hby hml hown Xm25 rfl N19 Z19 (Or.inl ⟨rfl, rfl⟩) tE19 tS19 tH19 tZ19 tQ19 tA19 f23 b5 ne22 (Ne.symm ne9a) nf24 tf19 tr19 hk1 hk2 hk3 hk4 HX HD HH.1 HH.2
      obtain ⟨fs, hr, hrun, hended, hW, hsame⟩ := X25.leave (v := some (.int (1 : Int32))) (fun h => by rw [Bd.returns] at h; cases h) (BodyLoose.notSynchronized Bd)
      refine ⟨_, _, pre0 _ ?_, hrun, hended, _, _, rfl, ?_, ⟨_, rfl⟩, hW, hsame.mono (by decide) (by decide)⟩
      · show Steps p.tables e below (s₁.setTop (mkF m 0 #[.val (.long q1), .second, .val (.long q2), .second, .val (.long q3), .second, .val (.long q4), .second, .val (.long q5), .second, .val (.long q6), .second, .unset, .unset, .unset, .unset, .unset, .unset, .unset, .unset, .unset, .unset, .unset, .unset, .unset, .unset, .unset, .unset] [])) _
        refine XS.lloadN X0.here hx rfl (hb hby at_0) rfl ?_
        refine st1 _ ?_
        refine XS.lstore X1.here hx rfl (hb hby at_4) rfl (l' := #[.val (.long q1), .second, .val (.long q2), .second, .val (.long q3), .second, .val (.long q4), .second, .val (.long q5), .second, .val (.long q6), .second, .val (.long r1), .second, .unset, .unset, .unset, .unset, .unset, .unset, .unset, .unset, .unset, .unset, .unset, .unset, .unset, .unset]) rfl ?_
        show Steps p.tables e below (T1.setTop (mkF m 6 #[.val (.long q1), .second, .val (.long q2), .second, .val (.long q3), .second, .val (.long q4), .second, .val (.long q5), .second, .val (.long q6), .second, .val (.long r1), .second, .unset, .unset, .unset, .unset, .unset, .unset, .unset, .unset, .unset, .unset, .unset, .unset, .unset, .unset] [])) _
        rw [← heka]
        show Steps p.tables e below (T1.setTop (mkF m 6 #[.val (.long q1), .second, .val (.long q2), .second, .val (.long q3), .second, .val (.long q4), .second, .val (.long q5), .second, .val (.long q6), .second, .val (.long ka), .second, .unset, .unset, .unset, .unset, .unset, .unset, .unset, .unset, .unset, .unset, .unset, .unset, .unset, .unset] [])) _
        refine XS.lloadN X1.here hx rfl (hb hby at_6) rfl ?_
        refine XS.lloadN X1.here hx rfl (hb hby at_7) rfl ?_
        refine XS.ladd X1.here hx rfl (hb hby at_8) rfl ?_
        refine st2 _ ?_
        refine XS.lstore X2.here hx rfl (hb hby at_12) rfl (l' := #[.val (.long q1), .second, .val (.long q2), .second, .val (.long q3), .second, .val (.long q4), .second, .val (.long q5), .second, .val (.long q6), .second, .val (.long ka), .second, .val (.long r2), .second, .unset, .unset, .unset, .unset, .unset, .unset, .unset, .unset, .unset, .unset, .unset, .unset]) rfl ?_
        show Steps p.tables e below (T2.setTop (mkF m 14 #[.val (.long q1), .second, .val (.long q2), .second, .val (.long q3), .second, .val (.long q4), .second, .val (.long q5), .second, .val (.long q6), .second, .val (.long ka), .second, .val (.long r2), .second, .unset, .unset, .unset, .unset, .unset, .unset, .unset, .unset, .unset, .unset, .unset, .unset] [])) _
        rw [← hekb]
        show Steps p.tables e below (T2.setTop (mkF m 14 #[.val (.long q1), .second, .val (.long q2), .second, .val (.long q3), .second, .val (.long q4), .second, .val (.long q5), .second, .val (.long q6), .second, .val (.long ka), .second, .val (.long kb), .second, .unset, .unset, .unset, .unset, .unset, .unset, .unset, .unset, .unset, .unset, .unset, .unset] [])) _
        refine XS.lload X2.here hx rfl (hb hby at_14) rfl ?_
        refine XS.lload X2.here hx rfl (hb hby at_16) rfl ?_
        refine XS.ladd X2.here hx rfl (hb hby at_18) rfl ?_
        refine st3 _ ?_
        refine XS.lstore X3.here hx rfl (hb hby at_22) rfl (l' := #[.val (.long q1), .second, .val (.long q2), .second, .val (.long q3), .second, .val (.long q4), .second, .val (.long q5), .second, .val (.long q6), .second, .val (.long ka), .second, .val (.long kb), .second, .val (.long r3), .second, .unset, .unset, .unset, .unset, .unset, .unset, .unset, .unset, .unset, .unset]) rfl ?_
        show Steps p.tables e below (T3.setTop (mkF m 24 #[.val (.long q1), .second, .val (.long q2), .second, .val (.long q3), .second, .val (.long q4), .second, .val (.long q5), .second, .val (.long q6), .second, .val (.long ka), .second, .val (.long kb), .second, .val (.long r3), .second, .unset, .unset, .unset, .unset, .unset, .unset, .unset, .unset, .unset, .unset] [])) _
        rw [← hekc]
        show Steps p.tables e below (T3.setTop (mkF m 24 #[.val (.long q1), .second, .val (.long q2), .second, .val (.long q3), .second, .val (.long q4), .second, .val (.long q5), .second, .val (.long q6), .second, .val (.long ka), .second, .val (.long kb), .second, .val (.long kc), .second, .unset, .unset, .unset, .unset, .unset, .unset, .unset, .unset, .unset, .unset] [])) _
        refine XS.lload X3.here hx rfl (hb hby at_24) rfl ?_
        refine XS.lconst X3.here hx rfl (hb hby at_26) ?_
        refine XS.ladd X3.here hx rfl (hb hby at_27) rfl ?_
        refine st4 _ ?_
        refine XS.lstore X4.here hx rfl (hb hby at_31) rfl (l' := #[.val (.long q1), .second, .val (.long q2), .second, .val (.long q3), .second, .val (.long q4), .second, .val (.long q5), .second, .val (.long q6), .second, .val (.long ka), .second, .val (.long kb), .second, .val (.long kc), .second, .val (.long r4), .second, .unset, .unset, .unset, .unset, .unset, .unset, .unset, .unset]) rfl ?_
        show Steps p.tables e below (T4.setTop (mkF m 33 #[.val (.long q1), .second, .val (.long q2), .second, .val (.long q3), .second, .val (.long q4), .second, .val (.long q5), .second, .val (.long q6), .second, .val (.long ka), .second, .val (.long kb), .second, .val (.long kc), .second, .val (.long r4), .second, .unset, .unset, .unset, .unset, .unset, .unset, .unset, .unset] [])) _
        rw [← hekd]
        show Steps p.tables e below (T4.setTop (mkF m 33 #[.val (.long q1), .second, .val (.long q2), .second, .val (.long q3), .second, .val (.long q4), .second, .val (.long q5), .second, .val (.long q6), .second, .val (.long ka), .second, .val (.long kb), .second, .val (.long kc), .second, .val (.long kd), .second, .unset, .unset, .unset, .unset, .unset, .unset, .unset, .unset] [])) _
        refine st5 _ ?_
        refine XS.dup X5.here hx rfl (hb hby at_36) rfl rfl ?_
        refine st6.trans ?_
        refine XS.astore X6.here hx rfl (hb hby at_40) rfl rfl (l' := #[.val (.long q1), .second, .val (.long q2), .second, .val (.long q3), .second, .val (.long q4), .second, .val (.long q5), .second, .val (.long q6), .second, .val (.long ka), .second, .val (.long kb), .second, .val (.long kc), .second, .val (.long kd), .second, .val (.ref b5o), .unset, .unset, .unset, .unset, .unset, .unset, .unset]) rfl ?_
        refine XS.aload X6.here hx rfl (hb hby at_42) rfl rfl ?_
        refine XS.lload X6.here hx rfl (hb hby at_44) rfl ?_
        refine XS.lload X6.here hx rfl (hb hby at_46) rfl ?_
        refine st7.trans ?_
        refine XS.aload X7.here hx rfl (hb hby at_51) rfl rfl ?_
        refine st9.trans ?_
        refine XS.astore X9.here hx rfl (hb hby at_56) rfl rfl (l' := #[.val (.long q1), .second, .val (.long q2), .second, .val (.long q3), .second, .val (.long q4), .second, .val (.long q5), .second, .val (.long q6), .second, .val (.long ka), .second, .val (.long kb), .second, .val (.long kc), .second, .val (.long kd), .second, .val (.ref b5o), .val (.ref sa9), .unset, .unset, .unset, .unset, .unset, .unset]) rfl ?_
        refine XS.aload X9.here hx rfl (hb hby at_58) rfl rfl ?_
        refine X9.arraylength hx Ar10.1 (State.isArrayOf_alike hZ.alike Ar10.2.1) (g := (mkF m 60 #[.val (.long q1), .second, .val (.long q2), .second, .val (.long q3), .second, .val (.long q4), .second, .val (.long q5), .second, .val (.long q6), .second, .val (.long ka), .second, .val (.long kb), .second, .val (.long kc), .second, .val (.long kd), .second, .val (.ref b5o), .val (.ref sa9), .unset, .unset, .unset, .unset, .unset, .unset] [(.ref sa9)])) rfl rfl (hb hby at_60) _ ?_
        rw [len_of Sz10 Nn10]
        show Steps p.tables e below (T9.setTop (mkF m 61 #[.val (.long q1), .second, .val (.long q2), .second, .val (.long q3), .second, .val (.long q4), .second, .val (.long q5), .second, .val (.long q6), .second, .val (.long ka), .second, .val (.long kb), .second, .val (.long kc), .second, .val (.long kd), .second, .val (.ref b5o), .val (.ref sa9), .unset, .unset, .unset, .unset, .unset, .unset] [(.int (1 : Int32))])) _
        refine XS.iconst X9.here hx rfl (hb hby at_61) ?_
        refine XS.icmpNo X9.here hx rfl (hb hby at_62) rfl (teq (by decide)).2 ?_
        refine XS.aload X9.here hx rfl (hb hby at_65) rfl rfl ?_
        refine XS.iconst X9.here hx rfl (hb hby at_67) ?_
        refine X9.laload hx (j := (0 : Int32)) (v := (.long ka)) Ar11.1 (State.isArrayOf_alike hZ.alike Ar11.2.1) Ar11.2.2 hin12 hat12 (g := (mkF m 68 #[.val (.long q1), .second, .val (.long q2), .second, .val (.long q3), .second, .val (.long q4), .second, .val (.long q5), .second, .val (.long q6), .second, .val (.long ka), .second, .val (.long kb), .second, .val (.long kc), .second, .val (.long kd), .second, .val (.ref b5o), .val (.ref sa9), .unset, .unset, .unset, .unset, .unset, .unset] [(.int (0 : Int32)), (.ref sa9)])) rfl rfl (hb hby at_68) _ ?_
        refine XS.lload X9.here hx rfl (hb hby at_69) rfl ?_
        refine XS.lcmp X9.here hx rfl (hb hby at_71) rfl ?_
        refine XS.ifYes X9.here hx rfl (pc0 := 72) (pc' := 77) rfl (hb hby at_72) rfl ((if0 _ _).trans (teq (own_lceq rfl)).1) (by decide) (by decide) ?_
        refine sg13 _ ?_
        refine XS.lload X9.here hx rfl (hb hby at_91) rfl ?_
        refine st14 _ ?_
        refine XS.istore X14.here hx rfl (hb hby at_96) rfl (l' := #[.val (.long q1), .second, .val (.long q2), .second, .val (.long q3), .second, .val (.long q4), .second, .val (.long q5), .second, .val (.long q6), .second, .val (.long ka), .second, .val (.long kb), .second, .val (.long kc), .second, .val (.long kd), .second, .val (.ref b5o), .val (.ref sa9), .val (.int r14), .unset, .unset, .unset, .unset, .unset]) rfl ?_
        refine XS.iload X14.here hx rfl (hb hby at_98) rfl ?_
        refine XS.ifYes X14.here hx rfl (pc0 := 100) (pc' := 112) rfl (hb hby at_100) rfl ((if0 _ _).trans (teq hc100).1) (by decide) (by decide) ?_
        refine sg15 _ ?_
        refine XS.lstore X14.here hx rfl (hb hby at_146) rfl (l' := #[.val (.long q1), .second, .val (.long q2), .second, .val (.long q3), .second, .val (.long q4), .second, .val (.long q5), .second, .val (.long q6), .second, .val (.long ka), .second, .val (.long kb), .second, .val (.long kc), .second, .val (.long kd), .second, .val (.ref b5o), .val (.ref sa9), .val (.int r14), .val (.long s3), .second, .unset, .unset, .unset]) rfl ?_
        refine XS.lload X14.here hx rfl (hb hby at_148) rfl ?_
        refine XS.lload X14.here hx rfl (hb hby at_150) rfl ?_
        refine st16 _ ?_
        refine XS.istore X16.here hx rfl (hb hby at_155) rfl (l' := #[.val (.long q1), .second, .val (.long q2), .second, .val (.long q3), .second, .val (.long q4), .second, .val (.long q5), .second, .val (.long q6), .second, .val (.long ka), .second, .val (.long kb), .second, .val (.long kc), .second, .val (.long kd), .second, .val (.ref b5o), .val (.ref sa9), .val (.int r14), .val (.long s3), .second, .val (.int r16), .unset, .unset]) rfl ?_
        refine XS.iload X16.here hx rfl (hb hby at_157) rfl ?_
        refine XS.ifNo X16.here hx rfl (hb hby at_159) rfl ((if0 _ _).trans (feq hc159).1) ?_
        refine XS.aload X16.here hx rfl (hb hby at_162) rfl rfl ?_
        refine XS.lload X16.here hx rfl (hb hby at_164) rfl ?_
        refine XS.lload X16.here hx rfl (hb hby at_166) rfl ?_
        refine st19.trans ?_
        refine st25 _ ?_
        show Steps p.tables e below (T25.setTop (mkF m 543 Ls25 [(.int (1 : Int32))])) _
        exact retN X25 hx (t := .boolean) Bd.returns (by simp) (hb hby at_543) hr
      · show Qrm0 Z q1 q2 q3 q4 q5 q6 h0 n0 _ T25.heap _
        exact ⟨rfl, N25⟩
  · have f27 := (tA7.keep KC9 (ninS (Ne.symm ne8) nin0))
    have wv28m := own_m2 hM7 hs2
    have wv28 := own_fits_ok (show ¬ own_fits s2 q5 = (0 : Int32) by rw [← hr14]; exact hc100)
    obtain ⟨cq26, kz26, q26a, q26b, q26c⟩ := isOf hZ e14 E9'
    obtain ⟨_, _, ⟨T26, Lq26, kq26, nq26⟩, -, X26, ⟨Lc26, hQ26, lq26, yq26, zq26⟩, st26⟩ := X14.virtualBack hx (y := (⟨"com/example/pricewright/pricewright/core/LongSumTable", "add", "(JJ)V"⟩ : MethodName)) (z := (⟨"com/example/pricewright/pricewright/core/LongSumTable", "add", "(JJ)V"⟩ : MethodName)) hown (mvT hZ (hw _ (own_w 32 rfl))) (mvT hZ (hw _ (own_w 33 rfl))) (notFace_of_selects (args := #[]) (mvT hZ (hw _ (own_w 35 rfl)))) (mvT hZ (hw _ (own_w 35 rfl))) (mvT hZ (hw _ (own_w 34 rfl))) (by decide) (backOf (W := 0) (rmA l Z a0 hw [] b5o kb q5 ta7 tk7 ta7r D7 M7 (1) (.ref sa9) T9.heap n0 Z9 E9' FS9' FH9' FZ9' FQ9' f27 tl7 ne8 b5 tg7 tr7 (by decide) hk2 (fun _ => own_ovf (by rw [wv28m]; exact wv28.1) (by rw [wv28m]; exact wv28.2))) hZ (hw _ (own_w 36 rfl)) (hw _ (own_w 7 rfl)) (by decide) (by decide)) q26a q26c (g := (mkF m 109 #[.val (.long q1), .second, .val (.long q2), .second, .val (.long q3), .second, .val (.long q4), .second, .val (.long q5), .second, .val (.long q6), .second, .val (.long ka), .second, .val (.long kb), .second, .val (.long kc), .second, .val (.long kd), .second, .val (.ref b5o), .val (.ref sa9), .val (.int r14), .unset, .unset, .unset, .unset, .unset] [(.long q5), (.long kb), (.ref b5o)])) rfl (by rw [hml]; rfl) (Steps.refl _) (argsL := [(.long kb), (.long q5)]) (rest := []) (lenOf pd_3 rfl) rfl (by show 2 * 0 + _ ≤ _; exact Nat.le_of_eq rfl) (hb hby at_109) (fun _ _ => ⟨rfl, e14, (by decide : 5 + 2 ≤ _), (by decide : 33 + 20 ≤ _)⟩)
    dsimp only [Pt.U, Pt.locs, Pt.cells, Pt.slots] at X26 lq26 yq26 zq26 st26 hQ26
    subst lq26 yq26 zq26
    obtain ⟨rfl, N26q, Z26, KA26, nn26, sz26, so26, D26, M26, hD26, hM26, ⟨ta26, tk26, ta26r, ts26, hn26, tg26, tE26, tS26, tH26, tZ26, tQ26, tA26, tl26, tr26⟩, hc26, hl26, hy26, ho26⟩ := hQ26
    have N26 := Fr.app N14 N26q
    obtain ⟨rfl, hz26⟩ : nn26 = 4 ∧ sz26 ≤ 2 := by omega
    obtain rfl := own_sh62 hn26
    have tf26 : ∃ j, j < 4 ∧ own_K ta26r j = own_FREE := own_cnt_free (by rw [tr26.2.2.2]; omega)
    have ne29 : b5o ≠ ta26 := ne_arrV tE26 (hw _ (own_w 6 rfl)) tA26
    have f30 := (AS9.keep KA26 (ninS (Ne.symm ne9a) (ninS (Ne.symm ne9b) nin0)))
    have nf31 : sa9 ≠ ta26 := own_neA f30 tA26 (by decide)
    obtain ⟨s3, hs3⟩ : ∃ z : Int64, z = (if kc = ka then (if kc = kb then (q4 + q5) else (q4 + (0 : Int64))) else (if kc = kb then ((0 : Int64) + q5) else (0 : Int64))) := ⟨_, rfl⟩
    have sg32 : ∀ tg0, Steps p.tables e below (T26.setTop (mkF m 146 #[.val (.long q1), .second, .val (.long q2), .second, .val (.long q3), .second, .val (.long q4), .second, .val (.long q5), .second, .val (.long q6), .second, .val (.long ka), .second, .val (.long kb), .second, .val (.long kc), .second, .val (.long kd), .second, .val (.ref b5o), .val (.ref sa9), .val (.int r14), .unset, .unset, .unset, .unset, .unset] [(.long s3)])) tg0 → Steps p.tables e below (T26.setTop (mkF m 112 #[.val (.long q1), .second, .val (.long q2), .second, .val (.long q3), .second, .val (.long q4), .second, .val (.long q5), .second, .val (.long q6), .second, .val (.long ka), .second, .val (.long kb), .second, .val (.long kc), .second, .val (.long kd), .second, .val (.ref b5o), .val (.ref sa9), .val (.int r14), .unset, .unset, .unset, .unset, .unset] [])) tg0 := by
      intro tg0 kt
      by_cases hj32_117 : kc = ka
      · by_cases hj32_136 : kc = kb
        · rw [if_pos hj32_117, if_pos hj32_136] at hs3
          rw [hs3] at kt
          show Steps p.tables e below (T26.setTop (mkF m 112 #[.val (.long q1), .second, .val (.long q2), .second, .val (.long q3), .second, .val (.long q4), .second, .val (.long q5), .second, .val (.long q6), .second, .val (.long ka), .second, .val (.long kb), .second, .val (.long kc), .second, .val (.long kd), .second, .val (.ref b5o), .val (.ref sa9), .val (.int r14), .unset, .unset, .unset, .unset, .unset] [])) _
          refine XS.lload X26.here hx rfl (hb hby at_112) rfl ?_
          refine XS.lload X26.here hx rfl (hb hby at_114) rfl ?_
          refine XS.lcmp X26.here hx rfl (hb hby at_116) rfl ?_
          refine XS.ifNo X26.here hx rfl (hb hby at_117) rfl ((if0 _ _).trans (teq (own_lceq hj32_117)).2) ?_
          refine XS.lload X26.here hx rfl (hb hby at_120) rfl ?_
          refine XS.goto X26.here hx rfl (pc0 := 122) (pc' := 126) rfl (hb hby at_122) (by decide) (by decide) ?_
          refine XS.iload X26.here hx rfl (hb hby at_126) rfl ?_
          refine XS.ifNo X26.here hx rfl (hb hby at_128) rfl ((if0 _ _).trans (feq hc100).1) ?_
          refine XS.lload X26.here hx rfl (hb hby at_131) rfl ?_
          refine XS.lload X26.here hx rfl (hb hby at_133) rfl ?_
          refine XS.lcmp X26.here hx rfl (hb hby at_135) rfl ?_
          refine XS.ifNo X26.here hx rfl (hb hby at_136) rfl ((if0 _ _).trans (teq (own_lceq hj32_136)).2) ?_
          refine XS.lload X26.here hx rfl (hb hby at_139) rfl ?_
          refine XS.goto X26.here hx rfl (pc0 := 141) (pc' := 145) rfl (hb hby at_141) (by decide) (by decide) ?_
          refine XS.ladd X26.here hx rfl (hb hby at_145) rfl ?_
          exact kt
        · rw [if_pos hj32_117, if_neg hj32_136] at hs3
          rw [hs3] at kt
          show Steps p.tables e below (T26.setTop (mkF m 112 #[.val (.long q1), .second, .val (.long q2), .second, .val (.long q3), .second, .val (.long q4), .second, .val (.long q5), .second, .val (.long q6), .second, .val (.long ka), .second, .val (.long kb), .second, .val (.long kc), .second, .val (.long kd), .second, .val (.ref b5o), .val (.ref sa9), .val (.int r14), .unset, .unset, .unset, .unset, .unset] [])) _
          refine XS.lload X26.here hx rfl (hb hby at_112) rfl ?_
          refine XS.lload X26.here hx rfl (hb hby at_114) rfl ?_
          refine XS.lcmp X26.here hx rfl (hb hby at_116) rfl ?_
          refine XS.ifNo X26.here hx rfl (hb hby at_117) rfl ((if0 _ _).trans (teq (own_lceq hj32_117)).2) ?_
          refine XS.lload X26.here hx rfl (hb hby at_120) rfl ?_
          refine XS.goto X26.here hx rfl (pc0 := 122) (pc' := 126) rfl (hb hby at_122) (by decide) (by decide) ?_
          refine XS.iload X26.here hx rfl (hb hby at_126) rfl ?_
          refine XS.ifNo X26.here hx rfl (hb hby at_128) rfl ((if0 _ _).trans (feq hc100).1) ?_
          refine XS.lload X26.here hx rfl (hb hby at_131) rfl ?_
          refine XS.lload X26.here hx rfl (hb hby at_133) rfl ?_
          refine XS.lcmp X26.here hx rfl (hb hby at_135) rfl ?_
          refine XS.ifYes X26.here hx rfl (pc0 := 136) (pc' := 144) rfl (hb hby at_136) rfl ((if0 _ _).trans (feq (own_lcne hj32_136)).2) (by decide) (by decide) ?_
          refine XS.lconst X26.here hx rfl (hb hby at_144) ?_
          refine XS.ladd X26.here hx rfl (hb hby at_145) rfl ?_
          exact kt
      · by_cases hj32_136 : kc = kb
        · rw [if_neg hj32_117, if_pos hj32_136] at hs3
          rw [hs3] at kt
          show Steps p.tables e below (T26.setTop (mkF m 112 #[.val (.long q1), .second, .val (.long q2), .second, .val (.long q3), .second, .val (.long q4), .second, .val (.long q5), .second, .val (.long q6), .second, .val (.long ka), .second, .val (.long kb), .second, .val (.long kc), .second, .val (.long kd), .second, .val (.ref b5o), .val (.ref sa9), .val (.int r14), .unset, .unset, .unset, .unset, .unset] [])) _
          refine XS.lload X26.here hx rfl (hb hby at_112) rfl ?_
          refine XS.lload X26.here hx rfl (hb hby at_114) rfl ?_
          refine XS.lcmp X26.here hx rfl (hb hby at_116) rfl ?_
          refine XS.ifYes X26.here hx rfl (pc0 := 117) (pc' := 125) rfl (hb hby at_117) rfl ((if0 _ _).trans (feq (own_lcne hj32_117)).2) (by decide) (by decide) ?_
          refine XS.lconst X26.here hx rfl (hb hby at_125) ?_
          refine XS.iload X26.here hx rfl (hb hby at_126) rfl ?_
          refine XS.ifNo X26.here hx rfl (hb hby at_128) rfl ((if0 _ _).trans (feq hc100).1) ?_
          refine XS.lload X26.here hx rfl (hb hby at_131) rfl ?_
          refine XS.lload X26.here hx rfl (hb hby at_133) rfl ?_
          refine XS.lcmp X26.here hx rfl (hb hby at_135) rfl ?_
          refine XS.ifNo X26.here hx rfl (hb hby at_136) rfl ((if0 _ _).trans (teq (own_lceq hj32_136)).2) ?_
          refine XS.lload X26.here hx rfl (hb hby at_139) rfl ?_
          refine XS.goto X26.here hx rfl (pc0 := 141) (pc' := 145) rfl (hb hby at_141) (by decide) (by decide) ?_
          refine XS.ladd X26.here hx rfl (hb hby at_145) rfl ?_
          exact kt
        · rw [if_neg hj32_117, if_neg hj32_136] at hs3
          rw [hs3] at kt
          show Steps p.tables e below (T26.setTop (mkF m 112 #[.val (.long q1), .second, .val (.long q2), .second, .val (.long q3), .second, .val (.long q4), .second, .val (.long q5), .second, .val (.long q6), .second, .val (.long ka), .second, .val (.long kb), .second, .val (.long kc), .second, .val (.long kd), .second, .val (.ref b5o), .val (.ref sa9), .val (.int r14), .unset, .unset, .unset, .unset, .unset] [])) _
          refine XS.lload X26.here hx rfl (hb hby at_112) rfl ?_
          refine XS.lload X26.here hx rfl (hb hby at_114) rfl ?_
          refine XS.lcmp X26.here hx rfl (hb hby at_116) rfl ?_
          refine XS.ifYes X26.here hx rfl (pc0 := 117) (pc' := 125) rfl (hb hby at_117) rfl ((if0 _ _).trans (feq (own_lcne hj32_117)).2) (by decide) (by decide) ?_
          refine XS.lconst X26.here hx rfl (hb hby at_125) ?_
          refine XS.iload X26.here hx rfl (hb hby at_126) rfl ?_
          refine XS.ifNo X26.here hx rfl (hb hby at_128) rfl ((if0 _ _).trans (feq hc100).1) ?_
          refine XS.lload X26.here hx rfl (hb hby at_131) rfl ?_
          refine XS.lload X26.here hx rfl (hb hby at_133) rfl ?_
          refine XS.lcmp X26.here hx rfl (hb hby at_135) rfl ?_
          refine XS.ifYes X26.here hx rfl (pc0 := 136) (pc' := 144) rfl (hb hby at_136) rfl ((if0 _ _).trans (feq (own_lcne hj32_136)).2) (by decide) (by decide) ?_
          refine XS.lconst X26.here hx rfl (hb hby at_144) ?_
          refine XS.ladd X26.here hx rfl (hb hby at_145) rfl ?_
          exact kt
    obtain ⟨_, _, ⟨T33, Lq33, kq33, nq33⟩, -, X33, ⟨Lc33, hQ33, lq33, yq33, zq33⟩, st33⟩ := Jvm.LawKit.callS X26 hx (y := (⟨"com/example/pricewright/pricewright/core/LongSumTableAddPinLaw", "fits", "(JJ)Z"⟩ : MethodName)) hown (mvT hZ (hw _ (own_w 68 rfl))) (mvT hZ (hw _ (own_w 69 rfl))) (mvT hZ (hw _ (own_w 2 rfl))) (mvT hZ (hw _ (own_w 70 rfl))) (by decide) (backOf (W := 0) (rmt l Z a0 hw [] s3 q6  T26.heap n0 Z26 ) hZ (hw _ (own_w 70 rfl)) (hw _ (own_w 2 rfl)) (by decide) (by decide)) (g := (mkF m 152 #[.val (.long q1), .second, .val (.long q2), .second, .val (.long q3), .second, .val (.long q4), .second, .val (.long q5), .second, .val (.long q6), .second, .val (.long ka), .second, .val (.long kb), .second, .val (.long kc), .second, .val (.long kd), .second, .val (.ref b5o), .val (.ref sa9), .val (.int r14), .val (.long s3), .second, .unset, .unset, .unset] [(.long q6), (.long s3)])) rfl (by rw [hml]; rfl) (argsL := [(.long s3), (.long q6)]) (rest := []) (lenOf pd_16 rfl) rfl (by show 2 * 0 + _ ≤ _; exact Nat.le_of_eq rfl) (hb hby at_152) (fun _ _ => ⟨rfl, rfl, (by decide : 7 + 0 ≤ _), (by decide : 53 + 0 ≤ _)⟩)
    dsimp only [Pt.U, Pt.locs, Pt.cells, Pt.slots] at X33 lq33 yq33 zq33 st33 hQ33
    subst lq33 yq33 zq33
    obtain ⟨r33, hr33, rfl, N33q, e33⟩ := hQ33
    have N33 := Fr.app N26 N33q
    by_cases hc159 : r33 = (0 : Int32)
    · have HX : ∀ x, own_exp x ka q4 r14 kb q5 r33 kc q6 = M26 x := fun x => (own_pZ hc159 (own_pY hc100 hM26 (own_p1 hM7)))
      have HD : ∀ x, D26 x ↔ (x = ka ∨ (¬ r14 = (0 : Int32) ∧ x = kb) ∨ (¬ r33 = (0 : Int32) ∧ x = kc)) := fun x => by simp only [hD26, hD7]; simp [hc100, hc159, or_assoc]
      have e2 : (kb = ka → sz26 = 1 ∧ so26 = (.ref sa9)) ∧ (¬ kb = ka → sz26 = 2 ∧ so26 = .null) := ⟨fun w => hy26 ((hD7 kb).mpr (Or.inr w)), fun w => ho26 (fun v => w (((hD7 kb).mp v).elim (fun z => z.elim) id))⟩
      have HH := own_R10 (kc := kc) hc100 hc159 e2
      have Xm34 := X33.more (cells' := 10) (slots' := 80) (by decide) (by decide)
      obtain ⟨T34, L34, Ls34, X34, N34, st34⟩ := own_tail (n := 4) (arr := ta26r) (sh := (62 : Int32)) (sz := sz26) (so := so26) (d2 := r14) (d3 := r33) hx hZ hw hby hml hown Xm34 e33 N33 Z26 (Or.inl ⟨rfl, rfl⟩) tE26 tS26 tH26 tZ26 tQ26 tA26 f30 b5 ne29 (Ne.symm ne9a) nf31 tf26 tr26 hk1 hk2 hk3 hk4 HX HD HH.1 HH.2
      obtain ⟨fs, hr, hrun, hended, hW, hsame⟩ := X34.leave (v := some (.int (1 : Int32))) (fun h => by rw [Bd.returns] at h; cases h) (BodyLoose.notSynchronized Bd)
      refine ⟨_, _, pre0 _ ?_, hrun, hended, _, _, rfl, ?_, ⟨_, rfl⟩, hW, hsame.mono (by decide) (by decide)⟩
      · show Steps p.tables e below (s₁.setTop (mkF m 0 #[.val (.long q1), .second, .val (.long q2), .second, .val (.long q3), .second, .val (.long q4), .second, .val (.long q5), .second, .val (.long q6), .second, .unset, .unset, .unset, .unset, .unset, .unset, .unset, .unset, .unset, .unset, .unset, .unset, .unset, .unset, .unset, .unset] [])) _
        refine XS.lloadN X0.here hx rfl (hb hby at_0) rfl ?_
        refine st1 _ ?_
        refine XS.lstore X1.here hx rfl (hb hby at_4) rfl (l' := #[.val (.long q1), .second, .val (.long q2), .second, .val (.long q3), .second, .val (.long q4), .second, .val (.long q5), .second, .val (.long q6), .second, .val (.long r1), .second, .unset, .unset, .unset, .unset, .unset, .unset, .unset, .unset, .unset, .unset, .unset, .unset, .unset, .unset]) rfl ?_
        show Steps p.tables e below (T1.setTop (mkF m 6 #[.val (.long q1), .second, .val (.long q2), .second, .val (.long q3), .second, .val (.long q4), .second, .val (.long q5), .second, .val (.long q6), .second, .val (.long r1), .second, .unset, .unset, .unset, .unset, .unset, .unset, .unset, .unset, .unset, .unset, .unset, .unset, .unset, .unset] [])) _
        rw [← heka]
        show Steps p.tables e below (T1.setTop (mkF m 6 #[.val (.long q1), .second, .val (.long q2), .second, .val (.long q3), .second, .val (.long q4), .second, .val (.long q5), .second, .val (.long q6), .second, .val (.long ka), .second, .unset, .unset, .unset, .unset, .unset, .unset, .unset, .unset, .unset, .unset, .unset, .unset, .unset, .unset] [])) _
        refine XS.lloadN X1.here hx rfl (hb hby at_6) rfl ?_
        refine XS.lloadN X1.here hx rfl (hb hby at_7) rfl ?_
        refine XS.ladd X1.here hx rfl (hb hby at_8) rfl ?_
        refine st2 _ ?_
        refine XS.lstore X2.here hx rfl (hb hby at_12) rfl (l' := #[.val (.long q1), .second, .val (.long q2), .second, .val (.long q3), .second, .val (.long q4), .second, .val (.long q5), .second, .val (.long q6), .second, .val (.long ka), .second, .val (.long r2), .second, .unset, .unset, .unset, .unset, .unset, .unset, .unset, .unset, .unset, .unset, .unset, .unset]) rfl ?_
        show Steps p.tables e below (T2.setTop (mkF m 14 #[.val (.long q1), .second, .val (.long q2), .second, .val (.long q3), .second, .val (.long q4), .second, .val (.long q5), .second, .val (.long q6), .second, .val (.long ka), .second, .val (.long r2), .second, .unset, .unset, .unset, .unset, .unset, .unset, .unset, .unset, .unset, .unset, .unset, .unset] [])) _
        rw [← hekb]
        show Steps p.tables e below (T2.setTop (mkF m 14 #[.val (.long q1), .second, .val (.long q2), .second, .val (.long q3), .second, .val (.long q4), .second, .val (.long q5), .second, .val (.long q6), .second, .val (.long ka), .second, .val (.long kb), .second, .unset, .unset, .unset, .unset, .unset, .unset, .unset, .unset, .unset, .unset, .unset, .unset] [])) _
        refine XS.lload X2.here hx rfl (hb hby at_14) rfl ?_
        refine XS.lload X2.here hx rfl (hb hby at_16) rfl ?_
        refine XS.ladd X2.here hx rfl (hb hby at_18) rfl ?_
        refine st3 _ ?_
        refine XS.lstore X3.here hx rfl (hb hby at_22) rfl (l' := #[.val (.long q1), .second, .val (.long q2), .second, .val (.long q3), .second, .val (.long q4), .second, .val (.long q5), .second, .val (.long q6), .second, .val (.long ka), .second, .val (.long kb), .second, .val (.long r3), .second, .unset, .unset, .unset, .unset, .unset, .unset, .unset, .unset, .unset, .unset]) rfl ?_
        show Steps p.tables e below (T3.setTop (mkF m 24 #[.val (.long q1), .second, .val (.long q2), .second, .val (.long q3), .second, .val (.long q4), .second, .val (.long q5), .second, .val (.long q6), .second, .val (.long ka), .second, .val (.long kb), .second, .val (.long r3), .second, .unset, .unset, .unset, .unset, .unset, .unset, .unset, .unset, .unset, .unset] [])) _
        rw [← hekc]
        show Steps p.tables e below (T3.setTop (mkF m 24 #[.val (.long q1), .second, .val (.long q2), .second, .val (.long q3), .second, .val (.long q4), .second, .val (.long q5), .second, .val (.long q6), .second, .val (.long ka), .second, .val (.long kb), .second, .val (.long kc), .second, .unset, .unset, .unset, .unset, .unset, .unset, .unset, .unset, .unset, .unset] [])) _
        refine XS.lload X3.here hx rfl (hb hby at_24) rfl ?_
        refine XS.lconst X3.here hx rfl (hb hby at_26) ?_
        refine XS.ladd X3.here hx rfl (hb hby at_27) rfl ?_
        refine st4 _ ?_
        refine XS.lstore X4.here hx rfl (hb hby at_31) rfl (l' := #[.val (.long q1), .second, .val (.long q2), .second, .val (.long q3), .second, .val (.long q4), .second, .val (.long q5), .second, .val (.long q6), .second, .val (.long ka), .second, .val (.long kb), .second, .val (.long kc), .second, .val (.long r4), .second, .unset, .unset, .unset, .unset, .unset, .unset, .unset, .unset]) rfl ?_
        show Steps p.tables e below (T4.setTop (mkF m 33 #[.val (.long q1), .second, .val (.long q2), .second, .val (.long q3), .second, .val (.long q4), .second, .val (.long q5), .second, .val (.long q6), .second, .val (.long ka), .second, .val (.long kb), .second, .val (.long kc), .second, .val (.long r4), .second, .unset, .unset, .unset, .unset, .unset, .unset, .unset, .unset] [])) _
        rw [← hekd]
        show Steps p.tables e below (T4.setTop (mkF m 33 #[.val (.long q1), .second, .val (.long q2), .second, .val (.long q3), .second, .val (.long q4), .second, .val (.long q5), .second, .val (.long q6), .second, .val (.long ka), .second, .val (.long kb), .second, .val (.long kc), .second, .val (.long kd), .second, .unset, .unset, .unset, .unset, .unset, .unset, .unset, .unset] [])) _
        refine st5 _ ?_
        refine XS.dup X5.here hx rfl (hb hby at_36) rfl rfl ?_
        refine st6.trans ?_
        refine XS.astore X6.here hx rfl (hb hby at_40) rfl rfl (l' := #[.val (.long q1), .second, .val (.long q2), .second, .val (.long q3), .second, .val (.long q4), .second, .val (.long q5), .second, .val (.long q6), .second, .val (.long ka), .second, .val (.long kb), .second, .val (.long kc), .second, .val (.long kd), .second, .val (.ref b5o), .unset, .unset, .unset, .unset, .unset, .unset, .unset]) rfl ?_
        refine XS.aload X6.here hx rfl (hb hby at_42) rfl rfl ?_
        refine XS.lload X6.here hx rfl (hb hby at_44) rfl ?_
        refine XS.lload X6.here hx rfl (hb hby at_46) rfl ?_
        refine st7.trans ?_
        refine XS.aload X7.here hx rfl (hb hby at_51) rfl rfl ?_
        refine st9.trans ?_
        refine XS.astore X9.here hx rfl (hb hby at_56) rfl rfl (l' := #[.val (.long q1), .second, .val (.long q2), .second, .val (.long q3), .second, .val (.long q4), .second, .val (.long q5), .second, .val (.long q6), .second, .val (.long ka), .second, .val (.long kb), .second, .val (.long kc), .second, .val (.long kd), .second, .val (.ref b5o), .val (.ref sa9), .unset, .unset, .unset, .unset, .unset, .unset]) rfl ?_
        refine XS.aload X9.here hx rfl (hb hby at_58) rfl rfl ?_
        refine X9.arraylength hx Ar10.1 (State.isArrayOf_alike hZ.alike Ar10.2.1) (g := (mkF m 60 #[.val (.long q1), .second, .val (.long q2), .second, .val (.long q3), .second, .val (.long q4), .second, .val (.long q5), .second, .val (.long q6), .second, .val (.long ka), .second, .val (.long kb), .second, .val (.long kc), .second, .val (.long kd), .second, .val (.ref b5o), .val (.ref sa9), .unset, .unset, .unset, .unset, .unset, .unset] [(.ref sa9)])) rfl rfl (hb hby at_60) _ ?_
        rw [len_of Sz10 Nn10]
        show Steps p.tables e below (T9.setTop (mkF m 61 #[.val (.long q1), .second, .val (.long q2), .second, .val (.long q3), .second, .val (.long q4), .second, .val (.long q5), .second, .val (.long q6), .second, .val (.long ka), .second, .val (.long kb), .second, .val (.long kc), .second, .val (.long kd), .second, .val (.ref b5o), .val (.ref sa9), .unset, .unset, .unset, .unset, .unset, .unset] [(.int (1 : Int32))])) _
        refine XS.iconst X9.here hx rfl (hb hby at_61) ?_
        refine XS.icmpNo X9.here hx rfl (hb hby at_62) rfl (teq (by decide)).2 ?_
        refine XS.aload X9.here hx rfl (hb hby at_65) rfl rfl ?_
        refine XS.iconst X9.here hx rfl (hb hby at_67) ?_
        refine X9.laload hx (j := (0 : Int32)) (v := (.long ka)) Ar11.1 (State.isArrayOf_alike hZ.alike Ar11.2.1) Ar11.2.2 hin12 hat12 (g := (mkF m 68 #[.val (.long q1), .second, .val (.long q2), .second, .val (.long q3), .second, .val (.long q4), .second, .val (.long q5), .second, .val (.long q6), .second, .val (.long ka), .second, .val (.long kb), .second, .val (.long kc), .second, .val (.long kd), .second, .val (.ref b5o), .val (.ref sa9), .unset, .unset, .unset, .unset, .unset, .unset] [(.int (0 : Int32)), (.ref sa9)])) rfl rfl (hb hby at_68) _ ?_
        refine XS.lload X9.here hx rfl (hb hby at_69) rfl ?_
        refine XS.lcmp X9.here hx rfl (hb hby at_71) rfl ?_
        refine XS.ifYes X9.here hx rfl (pc0 := 72) (pc' := 77) rfl (hb hby at_72) rfl ((if0 _ _).trans (teq (own_lceq rfl)).1) (by decide) (by decide) ?_
        refine sg13 _ ?_
        refine XS.lload X9.here hx rfl (hb hby at_91) rfl ?_
        refine st14 _ ?_
        refine XS.istore X14.here hx rfl (hb hby at_96) rfl (l' := #[.val (.long q1), .second, .val (.long q2), .second, .val (.long q3), .second, .val (.long q4), .second, .val (.long q5), .second, .val (.long q6), .second, .val (.long ka), .second, .val (.long kb), .second, .val (.long kc), .second, .val (.long kd), .second, .val (.ref b5o), .val (.ref sa9), .val (.int r14), .unset, .unset, .unset, .unset, .unset]) rfl ?_
        refine XS.iload X14.here hx rfl (hb hby at_98) rfl ?_
        refine XS.ifNo X14.here hx rfl (hb hby at_100) rfl ((if0 _ _).trans (feq hc100).1) ?_
        refine XS.aload X14.here hx rfl (hb hby at_103) rfl rfl ?_
        refine XS.lload X14.here hx rfl (hb hby at_105) rfl ?_
        refine XS.lload X14.here hx rfl (hb hby at_107) rfl ?_
        refine st26.trans ?_
        refine sg32 _ ?_
        refine XS.lstore X26.here hx rfl (hb hby at_146) rfl (l' := #[.val (.long q1), .second, .val (.long q2), .second, .val (.long q3), .second, .val (.long q4), .second, .val (.long q5), .second, .val (.long q6), .second, .val (.long ka), .second, .val (.long kb), .second, .val (.long kc), .second, .val (.long kd), .second, .val (.ref b5o), .val (.ref sa9), .val (.int r14), .val (.long s3), .second, .unset, .unset, .unset]) rfl ?_
        refine XS.lload X26.here hx rfl (hb hby at_148) rfl ?_
        refine XS.lload X26.here hx rfl (hb hby at_150) rfl ?_
        refine st33 _ ?_
        refine XS.istore X33.here hx rfl (hb hby at_155) rfl (l' := #[.val (.long q1), .second, .val (.long q2), .second, .val (.long q3), .second, .val (.long q4), .second, .val (.long q5), .second, .val (.long q6), .second, .val (.long ka), .second, .val (.long kb), .second, .val (.long kc), .second, .val (.long kd), .second, .val (.ref b5o), .val (.ref sa9), .val (.int r14), .val (.long s3), .second, .val (.int r33), .unset, .unset]) rfl ?_
        refine XS.iload X33.here hx rfl (hb hby at_157) rfl ?_
        refine XS.ifYes X33.here hx rfl (pc0 := 159) (pc' := 171) rfl (hb hby at_159) rfl ((if0 _ _).trans (teq hc159).1) (by decide) (by decide) ?_
        refine st34 _ ?_
        show Steps p.tables e below (T34.setTop (mkF m 543 Ls34 [(.int (1 : Int32))])) _
        exact retN X34 hx (t := .boolean) Bd.returns (by simp) (hb hby at_543) hr
      · show Qrm0 Z q1 q2 q3 q4 q5 q6 h0 n0 _ T34.heap _
        exact ⟨rfl, N34⟩
    · have wv36m := own_m3 hM7 hM26 hs3
      have wv36 := own_fits_ok (show ¬ own_fits s3 q6 = (0 : Int32) by rw [← hr33]; exact hc159)
      obtain ⟨cq35, kz35, q35a, q35b, q35c⟩ := isOf hZ e33 tE26
      obtain ⟨_, _, ⟨T35, Lq35, kq35, nq35⟩, -, X35, ⟨Lc35, hQ35, lq35, yq35, zq35⟩, st35⟩ := X33.virtualBack hx (y := (⟨"com/example/pricewright/pricewright/core/LongSumTable", "add", "(JJ)V"⟩ : MethodName)) (z := (⟨"com/example/pricewright/pricewright/core/LongSumTable", "add", "(JJ)V"⟩ : MethodName)) hown (mvT hZ (hw _ (own_w 32 rfl))) (mvT hZ (hw _ (own_w 33 rfl))) (notFace_of_selects (args := #[]) (mvT hZ (hw _ (own_w 35 rfl)))) (mvT hZ (hw _ (own_w 35 rfl))) (mvT hZ (hw _ (own_w 34 rfl))) (by decide) (backOf (W := 0) (rmA l Z a0 hw [] b5o kc q6 ta26 tk26 ta26r D26 M26 (sz26) so26 T26.heap n0 Z26 tE26 tS26 tH26 tZ26 tQ26 tA26 tl26 ne29 b5 tg26 tr26 hz26 hk3 (fun _ => own_ovf (by rw [wv36m]; exact wv36.1) (by rw [wv36m]; exact wv36.2))) hZ (hw _ (own_w 36 rfl)) (hw _ (own_w 7 rfl)) (by decide) (by decide)) q35a q35c (g := (mkF m 168 #[.val (.long q1), .second, .val (.long q2), .second, .val (.long q3), .second, .val (.long q4), .second, .val (.long q5), .second, .val (.long q6), .second, .val (.long ka), .second, .val (.long kb), .second, .val (.long kc), .second, .val (.long kd), .second, .val (.ref b5o), .val (.ref sa9), .val (.int r14), .val (.long s3), .second, .val (.int r33), .unset, .unset] [(.long q6), (.long kc), (.ref b5o)])) rfl (by rw [hml]; rfl) (Steps.refl _) (argsL := [(.long kc), (.long q6)]) (rest := []) (lenOf pd_3 rfl) rfl (by show 2 * 0 + _ ≤ _; exact Nat.le_of_eq rfl) (hb hby at_168) (fun _ _ => ⟨rfl, e33, (by decide : 7 + 2 ≤ _), (by decide : 53 + 20 ≤ _)⟩)
      dsimp only [Pt.U, Pt.locs, Pt.cells, Pt.slots] at X35 lq35 yq35 zq35 st35 hQ35
      subst lq35 yq35 zq35
      obtain ⟨rfl, N35q, Z35, KA35, nn35, sz35, so35, D35, M35, hD35, hM35, ⟨ta35, tk35, ta35r, ts35, hn35, tg35, tE35, tS35, tH35, tZ35, tQ35, tA35, tl35, tr35⟩, hc35, hl35, hy35, ho35⟩ := hQ35
      have N35 := Fr.app N33 N35q
      have tf35 : ∃ j, j < nn35 ∧ own_K ta35r j = own_FREE := own_cnt_free (by rw [tr35.2.2.2]; omega)
      have ne37 : b5o ≠ ta35 := ne_arrV tE35 (hw _ (own_w 6 rfl)) tA35
      have f38 := (f30.keep KA35 (ninS (Ne.symm ne9a) (ninS nf31 nin0)))
      have nf39 : sa9 ≠ ta35 := own_neA f38 tA35 (own_len1 hn35)
      have HX : ∀ x, own_exp x ka q4 r14 kb q5 r33 kc q6 = M35 x := fun x => (own_pY hc159 hM35 (own_pY hc100 hM26 (own_p1 hM7)))
      have HD : ∀ x, D35 x ↔ (x = ka ∨ (¬ r14 = (0 : Int32) ∧ x = kb) ∨ (¬ r33 = (0 : Int32) ∧ x = kc)) := fun x => by simp only [hD35, hD26, hD7]; simp [hc100, hc159, or_assoc]
      have e2 : (kb = ka → sz26 = 1 ∧ so26 = (.ref sa9)) ∧ (¬ kb = ka → sz26 = 2 ∧ so26 = .null) := ⟨fun w => hy26 ((hD7 kb).mpr (Or.inr w)), fun w => ho26 (fun v => w (((hD7 kb).mp v).elim (fun z => z.elim) id))⟩
      have e3 : ((kc = ka ∨ kc = kb) → sz35 = sz26 ∧ so35 = so26) ∧ (¬ (kc = ka ∨ kc = kb) → sz35 = sz26 + 1 ∧ so35 = .null) := ⟨fun w => hy35 ((hD26 kc).mpr (w.elim (fun z => Or.inl ((hD7 kc).mpr (Or.inr z))) Or.inr)), fun w => ho35 (fun v => w (((hD26 kc).mp v).elim (fun z => Or.inl (((hD7 kc).mp z).elim (fun y => y.elim) id)) Or.inr))⟩
      have HH := own_R11 hc100 hc159 e2 e3 hc35
      have Xm40 := X35.more (cells' := 10) (slots' := 80) (by decide) (by decide)
      obtain ⟨T40, L40, Ls40, X40, N40, st40⟩ := own_tail (n := nn35) (arr := ta35r) (sh := ts35) (sz := sz35) (so := so35) (d2 := r14) (d3 := r33) hx hZ hw hby hml hown Xm40 rfl N35 Z35 hn35 tE35 tS35 tH35 tZ35 tQ35 tA35 f38 b5 ne37 (Ne.symm ne9a) nf39 tf35 tr35 hk1 hk2 hk3 hk4 HX HD HH.1 HH.2
      obtain ⟨fs, hr, hrun, hended, hW, hsame⟩ := X40.leave (v := some (.int (1 : Int32))) (fun h => by rw [Bd.returns] at h; cases h) (BodyLoose.notSynchronized Bd)
      refine ⟨_, _, pre0 _ ?_, hrun, hended, _, _, rfl, ?_, ⟨_, rfl⟩, hW, hsame.mono (by decide) (by decide)⟩
      · show Steps p.tables e below (s₁.setTop (mkF m 0 #[.val (.long q1), .second, .val (.long q2), .second, .val (.long q3), .second, .val (.long q4), .second, .val (.long q5), .second, .val (.long q6), .second, .unset, .unset, .unset, .unset, .unset, .unset, .unset, .unset, .unset, .unset, .unset, .unset, .unset, .unset, .unset, .unset] [])) _
        refine XS.lloadN X0.here hx rfl (hb hby at_0) rfl ?_
        refine st1 _ ?_
        refine XS.lstore X1.here hx rfl (hb hby at_4) rfl (l' := #[.val (.long q1), .second, .val (.long q2), .second, .val (.long q3), .second, .val (.long q4), .second, .val (.long q5), .second, .val (.long q6), .second, .val (.long r1), .second, .unset, .unset, .unset, .unset, .unset, .unset, .unset, .unset, .unset, .unset, .unset, .unset, .unset, .unset]) rfl ?_
        show Steps p.tables e below (T1.setTop (mkF m 6 #[.val (.long q1), .second, .val (.long q2), .second, .val (.long q3), .second, .val (.long q4), .second, .val (.long q5), .second, .val (.long q6), .second, .val (.long r1), .second, .unset, .unset, .unset, .unset, .unset, .unset, .unset, .unset, .unset, .unset, .unset, .unset, .unset, .unset] [])) _
        rw [← heka]
        show Steps p.tables e below (T1.setTop (mkF m 6 #[.val (.long q1), .second, .val (.long q2), .second, .val (.long q3), .second, .val (.long q4), .second, .val (.long q5), .second, .val (.long q6), .second, .val (.long ka), .second, .unset, .unset, .unset, .unset, .unset, .unset, .unset, .unset, .unset, .unset, .unset, .unset, .unset, .unset] [])) _
        refine XS.lloadN X1.here hx rfl (hb hby at_6) rfl ?_
        refine XS.lloadN X1.here hx rfl (hb hby at_7) rfl ?_
        refine XS.ladd X1.here hx rfl (hb hby at_8) rfl ?_
        refine st2 _ ?_
        refine XS.lstore X2.here hx rfl (hb hby at_12) rfl (l' := #[.val (.long q1), .second, .val (.long q2), .second, .val (.long q3), .second, .val (.long q4), .second, .val (.long q5), .second, .val (.long q6), .second, .val (.long ka), .second, .val (.long r2), .second, .unset, .unset, .unset, .unset, .unset, .unset, .unset, .unset, .unset, .unset, .unset, .unset]) rfl ?_
        show Steps p.tables e below (T2.setTop (mkF m 14 #[.val (.long q1), .second, .val (.long q2), .second, .val (.long q3), .second, .val (.long q4), .second, .val (.long q5), .second, .val (.long q6), .second, .val (.long ka), .second, .val (.long r2), .second, .unset, .unset, .unset, .unset, .unset, .unset, .unset, .unset, .unset, .unset, .unset, .unset] [])) _
        rw [← hekb]
        show Steps p.tables e below (T2.setTop (mkF m 14 #[.val (.long q1), .second, .val (.long q2), .second, .val (.long q3), .second, .val (.long q4), .second, .val (.long q5), .second, .val (.long q6), .second, .val (.long ka), .second, .val (.long kb), .second, .unset, .unset, .unset, .unset, .unset, .unset, .unset, .unset, .unset, .unset, .unset, .unset] [])) _
        refine XS.lload X2.here hx rfl (hb hby at_14) rfl ?_
        refine XS.lload X2.here hx rfl (hb hby at_16) rfl ?_
        refine XS.ladd X2.here hx rfl (hb hby at_18) rfl ?_
        refine st3 _ ?_
        refine XS.lstore X3.here hx rfl (hb hby at_22) rfl (l' := #[.val (.long q1), .second, .val (.long q2), .second, .val (.long q3), .second, .val (.long q4), .second, .val (.long q5), .second, .val (.long q6), .second, .val (.long ka), .second, .val (.long kb), .second, .val (.long r3), .second, .unset, .unset, .unset, .unset, .unset, .unset, .unset, .unset, .unset, .unset]) rfl ?_
        show Steps p.tables e below (T3.setTop (mkF m 24 #[.val (.long q1), .second, .val (.long q2), .second, .val (.long q3), .second, .val (.long q4), .second, .val (.long q5), .second, .val (.long q6), .second, .val (.long ka), .second, .val (.long kb), .second, .val (.long r3), .second, .unset, .unset, .unset, .unset, .unset, .unset, .unset, .unset, .unset, .unset] [])) _
        rw [← hekc]
        show Steps p.tables e below (T3.setTop (mkF m 24 #[.val (.long q1), .second, .val (.long q2), .second, .val (.long q3), .second, .val (.long q4), .second, .val (.long q5), .second, .val (.long q6), .second, .val (.long ka), .second, .val (.long kb), .second, .val (.long kc), .second, .unset, .unset, .unset, .unset, .unset, .unset, .unset, .unset, .unset, .unset] [])) _
        refine XS.lload X3.here hx rfl (hb hby at_24) rfl ?_
        refine XS.lconst X3.here hx rfl (hb hby at_26) ?_
        refine XS.ladd X3.here hx rfl (hb hby at_27) rfl ?_
        refine st4 _ ?_
        refine XS.lstore X4.here hx rfl (hb hby at_31) rfl (l' := #[.val (.long q1), .second, .val (.long q2), .second, .val (.long q3), .second, .val (.long q4), .second, .val (.long q5), .second, .val (.long q6), .second, .val (.long ka), .second, .val (.long kb), .second, .val (.long kc), .second, .val (.long r4), .second, .unset, .unset, .unset, .unset, .unset, .unset, .unset, .unset]) rfl ?_
        show Steps p.tables e below (T4.setTop (mkF m 33 #[.val (.long q1), .second, .val (.long q2), .second, .val (.long q3), .second, .val (.long q4), .second, .val (.long q5), .second, .val (.long q6), .second, .val (.long ka), .second, .val (.long kb), .second, .val (.long kc), .second, .val (.long r4), .second, .unset, .unset, .unset, .unset, .unset, .unset, .unset, .unset] [])) _
        rw [← hekd]
        show Steps p.tables e below (T4.setTop (mkF m 33 #[.val (.long q1), .second, .val (.long q2), .second, .val (.long q3), .second, .val (.long q4), .second, .val (.long q5), .second, .val (.long q6), .second, .val (.long ka), .second, .val (.long kb), .second, .val (.long kc), .second, .val (.long kd), .second, .unset, .unset, .unset, .unset, .unset, .unset, .unset, .unset] [])) _
        refine st5 _ ?_
        refine XS.dup X5.here hx rfl (hb hby at_36) rfl rfl ?_
        refine st6.trans ?_
        refine XS.astore X6.here hx rfl (hb hby at_40) rfl rfl (l' := #[.val (.long q1), .second, .val (.long q2), .second, .val (.long q3), .second, .val (.long q4), .second, .val (.long q5), .second, .val (.long q6), .second, .val (.long ka), .second, .val (.long kb), .second, .val (.long kc), .second, .val (.long kd), .second, .val (.ref b5o), .unset, .unset, .unset, .unset, .unset, .unset, .unset]) rfl ?_
        refine XS.aload X6.here hx rfl (hb hby at_42) rfl rfl ?_
        refine XS.lload X6.here hx rfl (hb hby at_44) rfl ?_
        refine XS.lload X6.here hx rfl (hb hby at_46) rfl ?_
        refine st7.trans ?_
        refine XS.aload X7.here hx rfl (hb hby at_51) rfl rfl ?_
        refine st9.trans ?_
        refine XS.astore X9.here hx rfl (hb hby at_56) rfl rfl (l' := #[.val (.long q1), .second, .val (.long q2), .second, .val (.long q3), .second, .val (.long q4), .second, .val (.long q5), .second, .val (.long q6), .second, .val (.long ka), .second, .val (.long kb), .second, .val (.long kc), .second, .val (.long kd), .second, .val (.ref b5o), .val (.ref sa9), .unset, .unset, .unset, .unset, .unset, .unset]) rfl ?_
        refine XS.aload X9.here hx rfl (hb hby at_58) rfl rfl ?_
        refine X9.arraylength hx Ar10.1 (State.isArrayOf_alike hZ.alike Ar10.2.1) (g := (mkF m 60 #[.val (.long q1), .second, .val (.long q2), .second, .val (.long q3), .second, .val (.long q4), .second, .val (.long q5), .second, .val (.long q6), .second, .val (.long ka), .second, .val (.long kb), .second, .val (.long kc), .second, .val (.long kd), .second, .val (.ref b5o), .val (.ref sa9), .unset, .unset, .unset, .unset, .unset, .unset] [(.ref sa9)])) rfl rfl (hb hby at_60) _ ?_
        rw [len_of Sz10 Nn10]
        show Steps p.tables e below (T9.setTop (mkF m 61 #[.val (.long q1), .second, .val (.long q2), .second, .val (.long q3), .second, .val (.long q4), .second, .val (.long q5), .second, .val (.long q6), .second, .val (.long ka), .second, .val (.long kb), .second, .val (.long kc), .second, .val (.long kd), .second, .val (.ref b5o), .val (.ref sa9), .unset, .unset, .unset, .unset, .unset, .unset] [(.int (1 : Int32))])) _
        refine XS.iconst X9.here hx rfl (hb hby at_61) ?_
        refine XS.icmpNo X9.here hx rfl (hb hby at_62) rfl (teq (by decide)).2 ?_
        refine XS.aload X9.here hx rfl (hb hby at_65) rfl rfl ?_
        refine XS.iconst X9.here hx rfl (hb hby at_67) ?_
        refine X9.laload hx (j := (0 : Int32)) (v := (.long ka)) Ar11.1 (State.isArrayOf_alike hZ.alike Ar11.2.1) Ar11.2.2 hin12 hat12 (g := (mkF m 68 #[.val (.long q1), .second, .val (.long q2), .second, .val (.long q3), .second, .val (.long q4), .second, .val (.long q5), .second, .val (.long q6), .second, .val (.long ka), .second, .val (.long kb), .second, .val (.long kc), .second, .val (.long kd), .second, .val (.ref b5o), .val (.ref sa9), .unset, .unset, .unset, .unset, .unset, .unset] [(.int (0 : Int32)), (.ref sa9)])) rfl rfl (hb hby at_68) _ ?_
        refine XS.lload X9.here hx rfl (hb hby at_69) rfl ?_
        refine XS.lcmp X9.here hx rfl (hb hby at_71) rfl ?_
        refine XS.ifYes X9.here hx rfl (pc0 := 72) (pc' := 77) rfl (hb hby at_72) rfl ((if0 _ _).trans (teq (own_lceq rfl)).1) (by decide) (by decide) ?_
        refine sg13 _ ?_
        refine XS.lload X9.here hx rfl (hb hby at_91) rfl ?_
        refine st14 _ ?_
        refine XS.istore X14.here hx rfl (hb hby at_96) rfl (l' := #[.val (.long q1), .second, .val (.long q2), .second, .val (.long q3), .second, .val (.long q4), .second, .val (.long q5), .second, .val (.long q6), .second, .val (.long ka), .second, .val (.long kb), .second, .val (.long kc), .second, .val (.long kd), .second, .val (.ref b5o), .val (.ref sa9), .val (.int r14), .unset, .unset, .unset, .unset, .unset]) rfl ?_
        refine XS.iload X14.here hx rfl (hb hby at_98) rfl ?_
        refine XS.ifNo X14.here hx rfl (hb hby at_100) rfl ((if0 _ _).trans (feq hc100).1) ?_
        refine XS.aload X14.here hx rfl (hb hby at_103) rfl rfl ?_
        refine XS.lload X14.here hx rfl (hb hby at_105) rfl ?_
        refine XS.lload X14.here hx rfl (hb hby at_107) rfl ?_
        refine st26.trans ?_
        refine sg32 _ ?_
        refine XS.lstore X26.here hx rfl (hb hby at_146) rfl (l' := #[.val (.long q1), .second, .val (.long q2), .second, .val (.long q3), .second, .val (.long q4), .second, .val (.long q5), .second, .val (.long q6), .second, .val (.long ka), .second, .val (.long kb), .second, .val (.long kc), .second, .val (.long kd), .second, .val (.ref b5o), .val (.ref sa9), .val (.int r14), .val (.long s3), .second, .unset, .unset, .unset]) rfl ?_
        refine XS.lload X26.here hx rfl (hb hby at_148) rfl ?_
        refine XS.lload X26.here hx rfl (hb hby at_150) rfl ?_
        refine st33 _ ?_
        refine XS.istore X33.here hx rfl (hb hby at_155) rfl (l' := #[.val (.long q1), .second, .val (.long q2), .second, .val (.long q3), .second, .val (.long q4), .second, .val (.long q5), .second, .val (.long q6), .second, .val (.long ka), .second, .val (.long kb), .second, .val (.long kc), .second, .val (.long kd), .second, .val (.ref b5o), .val (.ref sa9), .val (.int r14), .val (.long s3), .second, .val (.int r33), .unset, .unset]) rfl ?_
        refine XS.iload X33.here hx rfl (hb hby at_157) rfl ?_
        refine XS.ifNo X33.here hx rfl (hb hby at_159) rfl ((if0 _ _).trans (feq hc159).1) ?_
        refine XS.aload X33.here hx rfl (hb hby at_162) rfl rfl ?_
        refine XS.lload X33.here hx rfl (hb hby at_164) rfl ?_
        refine XS.lload X33.here hx rfl (hb hby at_166) rfl ?_
        refine st35.trans ?_
        refine st40 _ ?_
        show Steps p.tables e below (T40.setTop (mkF m 543 Ls40 [(.int (1 : Int32))])) _
        exact retN X40 hx (t := .boolean) Bd.returns (by simp) (hb hby at_543) hr
      · show Qrm0 Z q1 q2 q3 q4 q5 q6 h0 n0 _ T40.heap _
        exact ⟨rfl, N40⟩
set_option maxRecDepth 65536 in
set_option maxHeartbeats 40000000 in
theorem comes_1 {Post : Tables → Env → Array Value → State → Outcome → State → Prop} (hpost : ∀ tb e args s v u, (limb_1_1.after args s (.returned v) u = true ∧ limb_1_2.after args s (.returned v) u = true) → FrameEnd s (.returned v) u (Jvm.fieldLocs frame_1_writes args s ++ Jvm.arrayLocs frame_1_arrays args s ++ Jvm.staticLocs frame_1_statics s) 24 192 → Post tb e args s (.returned v) u) :
    ArmFor flags0 classFile x code maxLocals ret World_1 tables_1 room_1 Calls_1 rest_1 Pre_1 Post := by
  intro l hfl _ _ p e ha hc hk s m args below hf hA hF happ hP
  obtain ⟨hcalls, hrest, hpre⟩ := hP
  obtain ⟨-, -, -, hnamed, -, -, -, hat⟩ := (Spec.applies_iff hf).mp happ
  obtain ⟨hg, hn⟩ := and_e (Cond.before_iff.mp (show (Jvm.Cond.and given_1 narrow_1).before args s = true from hpre))
  obtain ⟨hcount, hg0⟩ := and_e hg
  obtain ⟨ha0, hg1⟩ := and_e hg0
  obtain ⟨ha1, hg2⟩ := and_e hg1
  obtain ⟨ha2, hg3⟩ := and_e hg2
  obtain ⟨ha3, hg4⟩ := and_e hg3
  obtain ⟨ha4, hg5⟩ := and_e hg4
  obtain ⟨w0, w1, w2, w3, w4, w5, rfl⟩ : ∃ w0 w1 w2 w3 w4 w5 : Value, args = #[w0, w1, w2, w3, w4, w5] := by
    have hs : args.size = 6 := by simpa [Cond.value, given_1] using hcount
    obtain ⟨L⟩ := args
    match L, hs with
    | [w0, w1, w2, w3, w4, w5], _ => exact ⟨w0, w1, w2, w3, w4, w5, rfl⟩
  have hw := fun d (hd : d ∈ tables_1) => atoms_spec (ws := Jvm.Cond.code x code maxLocals ret :: tables_1) hat d (List.mem_cons_of_mem _ hd)
  have hfit : Fit s := fun {y c} hc i hi => by
    obtain ⟨ha, rfl⟩ := Array.getElem?_eq_some_iff.mp hc
    have q := List.all_eq_true.mp ((Array.all_eq_true_iff_forall_mem.mp hF) _ (Array.getElem_mem ha)) i (List.mem_range.mpr hi)
    simpa [Array.getElem?_eq_getElem hi] using q
  obtain ⟨i0, ei0⟩ := isL_v ha0
  obtain rfl : w0 = (.long i0) := Option.some.inj ei0
  obtain ⟨i1, ei1⟩ := isL_v ha1
  obtain rfl : w1 = (.long i1) := Option.some.inj ei1
  obtain ⟨i2, ei2⟩ := isL_v ha2
  obtain rfl : w2 = (.long i2) := Option.some.inj ei2
  obtain ⟨i3, ei3⟩ := isL_v ha3
  obtain rfl : w3 = (.long i3) := Option.some.inj ei3
  obtain ⟨i4, ei4⟩ := isL_v ha4
  obtain rfl : w4 = (.long i4) := Option.some.inj ei4
  obtain ⟨i5, ei5⟩ := isL_v hg5
  obtain rfl : w5 = (.long i5) := Option.some.inj ei5
  obtain ⟨n, o, h1, h2, h3, _, L, rfl, ⟨rfl, N⟩, hq⟩ := rm0 l s _ hw tables_1 i0 i1 i2 i3 i4 i5  s.heap s.heap.size (Nat.le_refl _)  p e ha hc hk s m _ below hf ((Spec.applies_iff_loose hf).mp happ).1 ⟨rfl, State.Warmed39.refl s, rfl⟩ trivial
  refine ⟨n, _, h1, h2, h3, hpost _ _ _ _ _ _ ⟨Cond.after_iff.mpr rfl, Cond.after_iff.mpr (eq_i res_at (Term.int_eval (1)) rfl)⟩ ⟨hq.1, hq.2.1, (hq.2.2.sift fun y hy => Or.inr (N y hy)).mono (by decide) (by decide)⟩⟩
theorem main_1_1 : Claimed_1_1 := comes_1 fun _ _ _ _ _ _ h hF => ⟨h.1, hF⟩
theorem main_1_2 : Claimed_1_2 := comes_1 fun _ _ _ _ _ _ h hF => ⟨h.2, hF⟩
end Jvm.Pilot.@@N@@
namespace Jvm.Pilot.@@N@@
open Jvm Jvm.ClassFile Sem Op Lib Jvm.Free Jvm.Stand Jvm.Pilot.@@N@@.Jvm.D
/-! MADE BY PROGRAM (witnessworld.py) out of the Statement's table words and the real class files: 20 classes; the members and pool entries that the words name. The judged class is class 1, her method 7. -/
namespace start1
open Jvm.ClassFile
def u (s : String) : CpInfo := .utf8 (stringToUtf16 s)
/-- a pool by its gaps: so many unusable entries, then the entry; so many at the end -/
def gap : Nat → List CpInfo → List CpInfo
  | 0, r => r
  | n + 1, r => .unusable :: gap n r
def poolList (es : List (Nat × CpInfo)) (last : Nat) : List CpInfo := es.foldr (fun e r => gap e.1 (e.2 :: r)) (gap last [])
def pool (es : List (Nat × CpInfo)) (last : Nat) : Array CpInfo := ⟨poolList es last⟩
def fileOf (pool : Array CpInfo) (this : Nat) (attrs : Array Attribute := #[]) (ms : Array MethodInfo := #[]) (fl : Nat := 33) (sup : Nat := 0) (ifs : Array Nat := #[]) (fds : Array FieldInfo := #[]) : ClassFile where
  minorVersion := 0
  majorVersion := 65
  constantPool := pool
  accessFlags := fl
  thisClass := this
  superClass := sup
  interfaces := ifs
  fields := fds
  methods := ms
  attributes := attrs
def plain (name : String) (sup : Option ClassId) : Class where
  name := name
  kind := .ordinary
  loader := none
  accessFlags := 33
  super := sup
  interfaces := #[]
  cf := none
  fields := #[]
  methods := #[]
  instanceTypes := #[]
  staticTypes := #[]
  resolved := #[]
  callSites := []
  init := .initialized
  statics := none
  mirror := none

def pool0 : Array CpInfo := pool [(5, u "<init>"), (0, u "()V"), (1, .class_ 10), (1, u "java/lang/Object")] 113

def k0c0 : Code := { maxStack := 0, maxLocals := 1, code := object_method_1_code, exceptionTable := #[], attributes := #[] }
def k0m0 : Method := { name := "<init>", desc := "()V", sig := { parameters := [], returnType := none }, accessFlags := 1, code := some k0c0 }
/-- java/lang/Object -/
def k0 : Class := { plain "java/lang/Object" none with
  accessFlags := 33
  interfaces := #[]
  cf := some (fileOf pool0 8 #[] #[{ accessFlags := 1, nameIndex := 5, descriptorIndex := 6, attributes := #[] }] 33 0 #[] #[])
  fields := #[]
  methods := #[k0m0]
  instanceTypes := #[]
  staticTypes := #[]
  resolved := Array.replicate 124 none
  statics := none }

def pool1 : Array CpInfo := pool [(2, .class_ 4), (0, .nameAndType 5 6), (0, u "java/lang/Object"), (0, u "<init>"), (0, u "()V"), (2, .long 9223372036854775808), (1, .long 9223372036854775807), (1, .methodref 14 15), (0, .class_ 16), (0, .nameAndType 17 18), (0, u "com/example/pricewright/pricewright/core/LongSumTableAddPinLaw"), (0, u "part"), (0, u "(ZJJJ)J"), (0, .methodref 14 20), (0, .nameAndType 21 22), (0, u "fix"), (0, u "(J)J"), (0, .class_ 24), (0, u "com/example/pricewright/pricewright/core/LongSumTable"), (0, .methodref 23 3), (0, .methodref 23 27), (0, .nameAndType 28 29), (0, u "add"), (0, u "(JJ)V"), (0, .methodref 23 31), (0, .nameAndType 32 33), (0, u "sortedKeys"), (0, u "()[J"), (0, .methodref 14 35), (0, .nameAndType 36 37), (0, u "fits"), (0, u "(JJ)Z"), (0, .methodref 23 39), (0, .nameAndType 40 22), (0, u "get"), (0, .methodref 14 42), (0, .nameAndType 43 44), (0, u "exp"), (0, u "(JJJZJJZJJ)J"), (0, .methodref 14 46), (0, .nameAndType 47 48), (0, u "member"), (0, u "(JJZJZJ)Z"), (0, .methodref 14 50), (0, .nameAndType 51 52), (0, u "in"), (0, u "([JJ)Z"), (3, u "law"), (0, u "(JJJJJJ)Z")] 4

def k1m0 : Method := { name := "<init>", desc := "()V", sig := { parameters := [], returnType := none }, accessFlags := 1, code := none }
def k1c1 : Code := { maxStack := 4, maxLocals := 2, code := method_2_code, exceptionTable := #[], attributes := #[] }
def k1m1 : Method := { name := "fix", desc := "(J)J", sig := { parameters := [.long], returnType := some .long }, accessFlags := 10, code := some k1c1 }
def k1c2 : Code := { maxStack := 6, maxLocals := 4, code := method_3_code, exceptionTable := #[], attributes := #[] }
def k1m2 : Method := { name := "fits", desc := "(JJ)Z", sig := { parameters := [.long, .long], returnType := some .boolean }, accessFlags := 10, code := some k1c2 }
def k1c3 : Code := { maxStack := 4, maxLocals := 7, code := method_4_code, exceptionTable := #[], attributes := #[] }
def k1m3 : Method := { name := "part", desc := "(ZJJJ)J", sig := { parameters := [.boolean, .long, .long, .long], returnType := some .long }, accessFlags := 10, code := some k1c3 }
def k1c4 : Code := { maxStack := 9, maxLocals := 16, code := method_5_code, exceptionTable := #[], attributes := #[] }
def k1m4 : Method := { name := "exp", desc := "(JJJZJJZJJ)J", sig := { parameters := [.long, .long, .long, .boolean, .long, .long, .boolean, .long, .long], returnType := some .long }, accessFlags := 10, code := some k1c4 }
def k1c5 : Code := { maxStack := 4, maxLocals := 3, code := method_6_code, exceptionTable := #[], attributes := #[] }
def k1m5 : Method := { name := "in", desc := "([JJ)Z", sig := { parameters := [(.array .long), .long], returnType := some .boolean }, accessFlags := 10, code := some k1c5 }
def k1c6 : Code := { maxStack := 4, maxLocals := 10, code := method_7_code, exceptionTable := #[], attributes := #[] }
def k1m6 : Method := { name := "member", desc := "(JJZJZJ)Z", sig := { parameters := [.long, .long, .boolean, .long, .boolean, .long], returnType := some .boolean }, accessFlags := 10, code := some k1c6 }
def k1c7 : Code := { maxStack := 18, maxLocals := 28, code := code, exceptionTable := #[], attributes := #[] }
def k1m7 : Method := { name := "law", desc := "(JJJJJJ)Z", sig := { parameters := [.long, .long, .long, .long, .long, .long], returnType := some .boolean }, accessFlags := 9, code := some k1c7 }
/-- com/example/pricewright/pricewright/core/LongSumTableAddPinLaw -/
def k1 : Class := { plain "com/example/pricewright/pricewright/core/LongSumTableAddPinLaw" (some 0) with
  accessFlags := 49
  interfaces := #[]
  cf := some (fileOf pool1 14 #[] #[{ accessFlags := 1, nameIndex := 5, descriptorIndex := 6, attributes := #[] }, { accessFlags := 10, nameIndex := 21, descriptorIndex := 22, attributes := #[] }, { accessFlags := 10, nameIndex := 36, descriptorIndex := 37, attributes := #[] }, { accessFlags := 10, nameIndex := 17, descriptorIndex := 18, attributes := #[] }, { accessFlags := 10, nameIndex := 43, descriptorIndex := 44, attributes := #[] }, { accessFlags := 10, nameIndex := 51, descriptorIndex := 52, attributes := #[] }, { accessFlags := 10, nameIndex := 47, descriptorIndex := 48, attributes := #[] }, { accessFlags := 9, nameIndex := 56, descriptorIndex := 57, attributes := #[] }] 49 2 #[] #[])
  fields := #[]
  methods := #[k1m0, k1m1, k1m2, k1m3, k1m4, k1m5, k1m6, k1m7]
  instanceTypes := #[]
  staticTypes := #[]
  resolved := Array.replicate 62 none
  statics := none }

def pool2 : Array CpInfo := pool [(1, .class_ 2), (0, u "java/lang/Long"), (0, .class_ 4), (0, u "com/example/pricewright/pricewright/core/LongSumTable"), (0, .methodref 3 6), (0, .nameAndType 7 8), (0, u "<init>"), (0, u "(I)V"), (0, .methodref 10 11), (0, .class_ 12), (0, .nameAndType 7 13), (0, u "java/lang/Object"), (0, u "()V"), (0, .fieldref 3 15), (0, .nameAndType 16 17), (0, u "slots"), (0, u "[J"), (0, .long 9223372036854775808), (1, .methodref 1 21), (0, .nameAndType 22 23), (0, u "numberOfLeadingZeros"), (0, u "(J)I"), (0, .fieldref 3 25), (0, .nameAndType 26 27), (0, u "shift"), (0, u "I"), (0, .methodref 3 29), (0, .nameAndType 30 31), (0, u "held"), (0, u "(J)J"), (0, .methodref 3 33), (0, .nameAndType 34 23), (0, u "index"), (0, .methodref 36 37), (0, .class_ 38), (0, .nameAndType 39 40), (0, u "java/lang/Math"), (0, u "addExact"), (0, u "(JJ)J"), (0, .fieldref 3 42), (0, .nameAndType 43 17), (0, u "sorted"), (0, .fieldref 3 45), (0, .nameAndType 46 27), (0, u "size"), (0, .methodref 3 48), (0, .nameAndType 49 8), (0, u "resize"), (0, .methodref 51 52), (0, .class_ 53), (0, .nameAndType 54 55), (0, u "java/util/Arrays"), (0, u "sort"), (0, u "([J)V"), (3, .methodref 3 60), (0, .nameAndType 61 62), (0, u "put"), (0, u "(JJ)V"), (7, .long 11400714819323198485), (1, u "FREE"), (0, u "J"), (1, u "INITIAL_CAPACITY"), (4, u "add"), (0, u "get"), (0, u "sortedKeys"), (0, u "()[J")] 4

def k2c0 : Code := { maxStack := 2, maxLocals := 1, code := prog_19_method_1_code, exceptionTable := #[], attributes := #[] }
def k2m0 : Method := { name := "<init>", desc := "()V", sig := { parameters := [], returnType := none }, accessFlags := 0, code := some k2c0 }
def k2c1 : Code := { maxStack := 4, maxLocals := 3, code := prog_19_method_2_code, exceptionTable := #[], attributes := #[] }
def k2m1 : Method := { name := "<init>", desc := "(I)V", sig := { parameters := [.int], returnType := none }, accessFlags := 2, code := some k2c1 }
def k2c2 : Code := { maxStack := 6, maxLocals := 6, code := prog_19_method_3_code, exceptionTable := #[], attributes := #[] }
def k2m2 : Method := { name := "add", desc := "(JJ)V", sig := { parameters := [.long, .long], returnType := none }, accessFlags := 0, code := some k2c2 }
def k2c3 : Code := { maxStack := 4, maxLocals := 4, code := prog_19_method_4_code, exceptionTable := #[], attributes := #[] }
def k2m3 : Method := { name := "get", desc := "(J)J", sig := { parameters := [.long], returnType := some .long }, accessFlags := 0, code := some k2c3 }
def k2c4 : Code := { maxStack := 4, maxLocals := 3, code := prog_19_method_5_code, exceptionTable := #[], attributes := #[] }
def k2m4 : Method := { name := "sortedKeys", desc := "()[J", sig := { parameters := [], returnType := some (.array .long) }, accessFlags := 0, code := some k2c4 }
def k2c5 : Code := { maxStack := 4, maxLocals := 2, code := prog_19_method_7_code, exceptionTable := #[], attributes := #[] }
def k2m5 : Method := { name := "held", desc := "(J)J", sig := { parameters := [.long], returnType := some .long }, accessFlags := 10, code := some k2c5 }
def k2c6 : Code := { maxStack := 4, maxLocals := 5, code := prog_19_method_8_code, exceptionTable := #[], attributes := #[] }
def k2m6 : Method := { name := "index", desc := "(J)I", sig := { parameters := [.long], returnType := some .int }, accessFlags := 2, code := some k2c6 }
def k2c7 : Code := { maxStack := 6, maxLocals := 4, code := prog_19_method_9_code, exceptionTable := #[], attributes := #[] }
def k2m7 : Method := { name := "resize", desc := "(I)V", sig := { parameters := [.int], returnType := none }, accessFlags := 2, code := some k2c7 }
def k2c8 : Code := { maxStack := 4, maxLocals := 6, code := prog_19_method_10_code, exceptionTable := #[], attributes := #[] }
def k2m8 : Method := { name := "put", desc := "(JJ)V", sig := { parameters := [.long, .long], returnType := none }, accessFlags := 2, code := some k2c8 }
/-- com/example/pricewright/pricewright/core/LongSumTable -/
def k2 : Class := { plain "com/example/pricewright/pricewright/core/LongSumTable" (some 0) with
  accessFlags := 48
  interfaces := #[]
  cf := some (fileOf pool2 3 #[] #[{ accessFlags := 0, nameIndex := 7, descriptorIndex := 13, attributes := #[] }, { accessFlags := 2, nameIndex := 7, descriptorIndex := 8, attributes := #[] }, { accessFlags := 0, nameIndex := 80, descriptorIndex := 62, attributes := #[] }, { accessFlags := 0, nameIndex := 81, descriptorIndex := 31, attributes := #[] }, { accessFlags := 0, nameIndex := 82, descriptorIndex := 83, attributes := #[] }, { accessFlags := 10, nameIndex := 30, descriptorIndex := 31, attributes := #[] }, { accessFlags := 2, nameIndex := 34, descriptorIndex := 23, attributes := #[] }, { accessFlags := 2, nameIndex := 49, descriptorIndex := 8, attributes := #[] }, { accessFlags := 2, nameIndex := 61, descriptorIndex := 62, attributes := #[] }] 48 10 #[] #[{ accessFlags := 24, nameIndex := 72, descriptorIndex := 73, attributes := #[] }, { accessFlags := 26, nameIndex := 75, descriptorIndex := 27, attributes := #[] }, { accessFlags := 2, nameIndex := 16, descriptorIndex := 17, attributes := #[] }, { accessFlags := 2, nameIndex := 26, descriptorIndex := 27, attributes := #[] }, { accessFlags := 2, nameIndex := 46, descriptorIndex := 27, attributes := #[] }, { accessFlags := 2, nameIndex := 43, descriptorIndex := 17, attributes := #[] }])
  fields := #[{ name := "FREE", type := .long, accessFlags := 24, slot := 0, constantValue := 0 }, { name := "INITIAL_CAPACITY", type := .int, accessFlags := 26, slot := 1, constantValue := 0 }, { name := "slots", type := (.array .long), accessFlags := 2, slot := 0, constantValue := 0 }, { name := "shift", type := .int, accessFlags := 2, slot := 1, constantValue := 0 }, { name := "size", type := .int, accessFlags := 2, slot := 2, constantValue := 0 }, { name := "sorted", type := (.array .long), accessFlags := 2, slot := 3, constantValue := 0 }]
  methods := #[k2m0, k2m1, k2m2, k2m3, k2m4, k2m5, k2m6, k2m7, k2m8]
  instanceTypes := #[(.array .long), .int, .int, (.array .long)]
  staticTypes := #[.long, .int]
  resolved := Array.replicate 88 none
  statics := none }

def pool3 : Array CpInfo := pool [(1, .class_ 2), (0, u "java/io/Serializable"), (0, .class_ 4), (0, u "java/lang/Object")] 2

/-- java/io/Serializable -/
def k3 : Class := { plain "java/io/Serializable" (some 0) with
  accessFlags := 1537
  interfaces := #[]
  cf := some (fileOf pool3 1 #[] #[] 1537 3 #[] #[])
  fields := #[]
  methods := #[]
  instanceTypes := #[]
  staticTypes := #[]
  resolved := Array.replicate 7 none
  statics := none }

def pool4 : Array CpInfo := pool [(2, .class_ 4), (1, u "java/lang/Object"), (0, u "<init>"), (0, u "()V"), (1, .class_ 10), (1, u "java/lang/Number"), (2, .class_ 14), (0, u "java/io/Serializable"), (0, u "serialVersionUID"), (0, u "J")] 20

def k4m0 : Method := { name := "<init>", desc := "()V", sig := { parameters := [], returnType := none }, accessFlags := 1, code := none }
/-- java/lang/Number -/
def k4 : Class := { plain "java/lang/Number" (some 0) with
  accessFlags := 1057
  interfaces := #[3]
  cf := some (fileOf pool4 8 #[] #[{ accessFlags := 1, nameIndex := 5, descriptorIndex := 6, attributes := #[] }] 1057 2 #[13] #[{ accessFlags := 26, nameIndex := 15, descriptorIndex := 16, attributes := #[] }])
  fields := #[{ name := "serialVersionUID", type := .long, accessFlags := 26, slot := 0, constantValue := 0 }]
  methods := #[k4m0]
  instanceTypes := #[]
  staticTypes := #[.long]
  resolved := Array.replicate 37 none
  statics := none }

def pool5 : Array CpInfo := pool [(1, .class_ 2), (0, u "java/lang/Comparable"), (0, .class_ 4), (0, u "java/lang/Object")] 7

/-- java/lang/Comparable -/
def k5 : Class := { plain "java/lang/Comparable" (some 0) with
  accessFlags := 1537
  interfaces := #[]
  cf := some (fileOf pool5 1 #[] #[] 1537 3 #[] #[])
  fields := #[]
  methods := #[]
  instanceTypes := #[]
  staticTypes := #[]
  resolved := Array.replicate 12 none
  statics := none }

def pool6 : Array CpInfo := pool [(1, .class_ 2), (0, u "java/lang/constant/Constable"), (0, .class_ 4), (0, u "java/lang/Object")] 6

/-- java/lang/constant/Constable -/
def k6 : Class := { plain "java/lang/constant/Constable" (some 0) with
  accessFlags := 1537
  interfaces := #[]
  cf := some (fileOf pool6 1 #[] #[] 1537 3 #[] #[])
  fields := #[]
  methods := #[]
  instanceTypes := #[]
  staticTypes := #[]
  resolved := Array.replicate 11 none
  statics := none }

def pool7 : Array CpInfo := pool [(1, .class_ 2), (0, u "java/lang/constant/ConstantDesc"), (0, .class_ 4), (0, u "java/lang/Object")] 32

/-- java/lang/constant/ConstantDesc -/
def k7 : Class := { plain "java/lang/constant/ConstantDesc" (some 0) with
  accessFlags := 1537
  interfaces := #[]
  cf := some (fileOf pool7 1 #[] #[] 1537 3 #[] #[])
  fields := #[]
  methods := #[]
  instanceTypes := #[]
  staticTypes := #[]
  resolved := Array.replicate 37 none
  statics := none }

def pool8 : Array CpInfo := pool [(1, .class_ 2), (0, u "java/lang/Long"), (15, .class_ 20), (1, u "java/lang/Integer"), (79, u "numberOfLeadingZeros"), (0, u "(J)I"), (133, .class_ 237), (1, u "java/lang/Long$LongCache"), (33, .class_ 272), (0, u "java/lang/Number"), (2, u "value"), (0, u "J"), (31, .methodref 18 309), (0, .nameAndType 100 310), (0, u "(I)I"), (50, u "TYPE"), (0, u "Ljava/lang/Class;"), (0, .class_ 364), (0, u "java/lang/Comparable"), (0, .class_ 366), (0, u "java/lang/constant/Constable"), (0, .class_ 368), (0, u "java/lang/constant/ConstantDesc"), (0, u "MIN_VALUE"), (1, u "MAX_VALUE"), (4, u "SIZE"), (0, u "I"), (1, u "BYTES"), (1, u "serialVersionUID")] 142

def k8c0 : Code := { maxStack := 3, maxLocals := 3, code := jdk_35_method_48_code, exceptionTable := #[], attributes := #[] }
def k8m0 : Method := { name := "numberOfLeadingZeros", desc := "(J)I", sig := { parameters := [.long], returnType := some .int }, accessFlags := 9, code := some k8c0 }
/-- java/lang/Long -/
def k8 : Class := { plain "java/lang/Long" (some 4) with
  accessFlags := 49
  interfaces := #[5, 6, 7]
  cf := some (fileOf pool8 1 #[.nestMembers #[235]] #[{ accessFlags := 9, nameIndex := 100, descriptorIndex := 101, attributes := #[] }] 49 271 #[363, 365, 367] #[{ accessFlags := 25, nameIndex := 369, descriptorIndex := 276, attributes := #[] }, { accessFlags := 25, nameIndex := 371, descriptorIndex := 276, attributes := #[] }, { accessFlags := 25, nameIndex := 361, descriptorIndex := 362, attributes := #[] }, { accessFlags := 18, nameIndex := 275, descriptorIndex := 276, attributes := #[] }, { accessFlags := 25, nameIndex := 376, descriptorIndex := 377, attributes := #[] }, { accessFlags := 25, nameIndex := 379, descriptorIndex := 377, attributes := #[] }, { accessFlags := 26, nameIndex := 381, descriptorIndex := 276, attributes := #[] }])
  fields := #[{ name := "MIN_VALUE", type := .long, accessFlags := 25, slot := 0, constantValue := 0 }, { name := "MAX_VALUE", type := .long, accessFlags := 25, slot := 1, constantValue := 0 }, { name := "TYPE", type := (.object "java/lang/Class"), accessFlags := 25, slot := 2, constantValue := 0 }, { name := "value", type := .long, accessFlags := 18, slot := 0, constantValue := 0 }, { name := "SIZE", type := .int, accessFlags := 25, slot := 3, constantValue := 0 }, { name := "BYTES", type := .int, accessFlags := 25, slot := 4, constantValue := 0 }, { name := "serialVersionUID", type := .long, accessFlags := 26, slot := 5, constantValue := 0 }]
  methods := #[k8m0]
  instanceTypes := #[.long]
  staticTypes := #[.long, .long, (.object "java/lang/Class"), .int, .int, .long]
  resolved := Array.replicate 524 none
  statics := none }

def pool9 : Array CpInfo := pool [(1, .class_ 2), (0, u "java/lang/Integer"), (16, u "digits"), (0, u "[C"), (32, u "numberOfLeadingZeros"), (0, u "(I)I"), (30, u "DigitOnes"), (0, u "[B"), (2, u "DigitTens"), (99, .class_ 190), (0, u "java/lang/Integer$IntegerCache"), (3, u "I"), (8, .class_ 204), (0, u "java/lang/Number"), (2, u "value"), (56, .integer 65536), (37, u "TYPE"), (0, u "Ljava/lang/Class;"), (0, .class_ 305), (0, u "java/lang/Comparable"), (0, .class_ 307), (0, u "java/lang/constant/Constable"), (0, .class_ 309), (0, u "java/lang/constant/ConstantDesc"), (0, u "MIN_VALUE"), (1, u "MAX_VALUE"), (3, u "SIZE"), (1, u "BYTES"), (1, u "serialVersionUID"), (0, u "J")] 131

def k9c0 : Code := { maxStack := 3, maxLocals := 2, code := jdk_33_method_47_code, exceptionTable := #[], attributes := #[] }
def k9m0 : Method := { name := "numberOfLeadingZeros", desc := "(I)I", sig := { parameters := [.int], returnType := some .int }, accessFlags := 9, code := some k9c0 }
/-- java/lang/Integer -/
def k9 : Class := { plain "java/lang/Integer" (some 4) with
  accessFlags := 49
  interfaces := #[5, 6, 7]
  cf := some (fileOf pool9 1 #[.nestMembers #[189]] #[{ accessFlags := 9, nameIndex := 53, descriptorIndex := 54, attributes := #[] }] 49 203 #[304, 306, 308] #[{ accessFlags := 25, nameIndex := 310, descriptorIndex := 194, attributes := #[] }, { accessFlags := 25, nameIndex := 312, descriptorIndex := 194, attributes := #[] }, { accessFlags := 25, nameIndex := 302, descriptorIndex := 303, attributes := #[] }, { accessFlags := 24, nameIndex := 19, descriptorIndex := 20, attributes := #[] }, { accessFlags := 24, nameIndex := 89, descriptorIndex := 86, attributes := #[] }, { accessFlags := 24, nameIndex := 85, descriptorIndex := 86, attributes := #[] }, { accessFlags := 18, nameIndex := 207, descriptorIndex := 194, attributes := #[] }, { accessFlags := 25, nameIndex := 316, descriptorIndex := 194, attributes := #[] }, { accessFlags := 25, nameIndex := 318, descriptorIndex := 194, attributes := #[] }, { accessFlags := 26, nameIndex := 320, descriptorIndex := 321, attributes := #[] }])
  fields := #[{ name := "MIN_VALUE", type := .int, accessFlags := 25, slot := 0, constantValue := 0 }, { name := "MAX_VALUE", type := .int, accessFlags := 25, slot := 1, constantValue := 0 }, { name := "TYPE", type := (.object "java/lang/Class"), accessFlags := 25, slot := 2, constantValue := 0 }, { name := "digits", type := (.array .char), accessFlags := 24, slot := 3, constantValue := 0 }, { name := "DigitTens", type := (.array .byte), accessFlags := 24, slot := 4, constantValue := 0 }, { name := "DigitOnes", type := (.array .byte), accessFlags := 24, slot := 5, constantValue := 0 }, { name := "value", type := .int, accessFlags := 18, slot := 0, constantValue := 0 }, { name := "SIZE", type := .int, accessFlags := 25, slot := 6, constantValue := 0 }, { name := "BYTES", type := .int, accessFlags := 25, slot := 7, constantValue := 0 }, { name := "serialVersionUID", type := .long, accessFlags := 26, slot := 8, constantValue := 0 }]
  methods := #[k9m0]
  instanceTypes := #[.int]
  staticTypes := #[.int, .int, (.object "java/lang/Class"), (.array .char), (.array .byte), (.array .byte), .int, .int, .long]
  resolved := Array.replicate 453 none
  statics := none }

def pool10 : Array CpInfo := pool [(2, .class_ 4), (1, u "java/lang/Object"), (0, u "<init>"), (0, u "()V"), (1, .class_ 10), (1, u "java/util/DualPivotQuicksort"), (0, u "sort"), (2, .class_ 16), (1, u "java/util/Arrays"), (2, .methodref 8 20), (0, .nameAndType 11 21), (0, u "([JIII)V"), (52, .class_ 76), (1, u "java/util/Arrays$NaturalOrder"), (36, .class_ 115), (1, u "java/util/Arrays$LegacyMergeSort"), (1, u "Z"), (257, .class_ 376), (0, u "java/util/Arrays$ArrayList"), (68, u "$assertionsDisabled"), (269, u "MIN_ARRAY_SORT_GRAN"), (0, u "I"), (2, u "INSERTIONSORT_THRESHOLD"), (11, u "([J)V"), (243, .class_ 976), (0, u "java/util/Arrays$ArrayItr")] 52

def k10m0 : Method := { name := "<init>", desc := "()V", sig := { parameters := [], returnType := none }, accessFlags := 2, code := none }
def k10c1 : Code := { maxStack := 4, maxLocals := 1, code := jdk_65_method_4_code, exceptionTable := #[], attributes := #[] }
def k10m1 : Method := { name := "sort", desc := "([J)V", sig := { parameters := [(.array .long)], returnType := none }, accessFlags := 9, code := some k10c1 }
/-- java/util/Arrays -/
def k10 : Class := { plain "java/util/Arrays" (some 0) with
  accessFlags := 49
  interfaces := #[]
  cf := some (fileOf pool10 14 #[.nestMembers #[975, 375, 113, 74]] #[{ accessFlags := 2, nameIndex := 5, descriptorIndex := 6, attributes := #[] }, { accessFlags := 9, nameIndex := 11, descriptorIndex := 731, attributes := #[] }] 49 2 #[] #[{ accessFlags := 26, nameIndex := 715, descriptorIndex := 716, attributes := #[] }, { accessFlags := 26, nameIndex := 719, descriptorIndex := 716, attributes := #[] }, { accessFlags := 4120, nameIndex := 445, descriptorIndex := 117, attributes := #[] }])
  fields := #[{ name := "MIN_ARRAY_SORT_GRAN", type := .int, accessFlags := 26, slot := 0, constantValue := 0 }, { name := "INSERTIONSORT_THRESHOLD", type := .int, accessFlags := 26, slot := 1, constantValue := 0 }, { name := "$assertionsDisabled", type := .boolean, accessFlags := 4120, slot := 2, constantValue := 0 }]
  methods := #[k10m0, k10m1]
  instanceTypes := #[]
  staticTypes := #[.int, .int, .boolean]
  resolved := Array.replicate 1029 none
  statics := none }

def pool11 : Array CpInfo := pool [(1, .class_ 2), (0, u "java/util/DualPivotQuicksort"), (5, .class_ 10), (1, u "java/lang/Object"), (0, u "<init>"), (0, u "()V"), (4, .class_ 18), (0, u "java/util/DualPivotQuicksort$Sorter"), (9, u "sort"), (7, u "insertionSort"), (31, u "I"), (4, .class_ 74), (0, u "java/util/DualPivotQuicksort$RunMerger"), (10, .class_ 86), (0, u "java/util/DualPivotQuicksort$Merger"), (12, .methodref 1 100), (0, .nameAndType 28 101), (0, u "(Ljava/util/DualPivotQuicksort$Sorter;[JIII)V"), (2, u "([JIII)V"), (0, .methodref 1 106), (0, .nameAndType 36 107), (0, u "([JII)V"), (106, u "MAX_MIXED_INSERTION_SORT_SIZE"), (2, u "MAX_INSERTION_SORT_SIZE"), (1, u "MIN_PARALLEL_SORT_SIZE"), (1, u "MIN_TRY_MERGE_SIZE"), (0, u "MIN_FIRST_RUN_SIZE"), (1, u "MIN_FIRST_RUNS_FACTOR"), (1, u "MAX_RUN_CAPACITY"), (1, u "MIN_RUN_COUNT"), (1, u "MIN_PARALLEL_MERGE_PARTS_SIZE"), (0, u "MIN_BYTE_COUNTING_SORT_SIZE"), (1, u "MIN_SHORT_OR_CHAR_COUNTING_SORT_SIZE"), (1, u "DELTA"), (1, u "MAX_RECURSION_DEPTH"), (1, u "NUM_BYTE_VALUES"), (1, u "MAX_BYTE_INDEX"), (0, u "NUM_CHAR_VALUES"), (0, u "NUM_SHORT_VALUES"), (0, u "MAX_SHORT_INDEX")] 86

def k11m0 : Method := { name := "<init>", desc := "()V", sig := { parameters := [], returnType := none }, accessFlags := 2, code := none }
def k11c1 : Code := { maxStack := 9, maxLocals := 7, code := jdk_2529_method_12_code, exceptionTable := #[], attributes := #[] }
def k11m1 : Method := { name := "sort", desc := "([JIII)V", sig := { parameters := [(.array .long), .int, .int, .int], returnType := none }, accessFlags := 8, code := some k11c1 }
def k11c2 : Code := { maxStack := 6, maxLocals := 25, code := jdk_2529_method_13_code, exceptionTable := #[], attributes := #[] }
def k11m2 : Method := { name := "sort", desc := "(Ljava/util/DualPivotQuicksort$Sorter;[JIII)V", sig := { parameters := [(.object "java/util/DualPivotQuicksort$Sorter"), (.array .long), .int, .int, .int], returnType := none }, accessFlags := 8, code := some k11c2 }
def k11c3 : Code := { maxStack := 5, maxLocals := 7, code := jdk_2529_method_15_code, exceptionTable := #[], attributes := #[] }
def k11m3 : Method := { name := "insertionSort", desc := "([JII)V", sig := { parameters := [(.array .long), .int, .int], returnType := none }, accessFlags := 10, code := some k11c3 }
/-- java/util/DualPivotQuicksort -/
def k11 : Class := { plain "java/util/DualPivotQuicksort" (some 0) with
  accessFlags := 48
  interfaces := #[]
  cf := some (fileOf pool11 1 #[.nestMembers #[73, 85, 17]] #[{ accessFlags := 2, nameIndex := 11, descriptorIndex := 12, attributes := #[] }, { accessFlags := 8, nameIndex := 28, descriptorIndex := 104, attributes := #[] }, { accessFlags := 8, nameIndex := 28, descriptorIndex := 101, attributes := #[] }, { accessFlags := 10, nameIndex := 36, descriptorIndex := 107, attributes := #[] }] 48 8 #[] #[{ accessFlags := 26, nameIndex := 214, descriptorIndex := 68, attributes := #[] }, { accessFlags := 26, nameIndex := 217, descriptorIndex := 68, attributes := #[] }, { accessFlags := 26, nameIndex := 219, descriptorIndex := 68, attributes := #[] }, { accessFlags := 26, nameIndex := 221, descriptorIndex := 68, attributes := #[] }, { accessFlags := 26, nameIndex := 222, descriptorIndex := 68, attributes := #[] }, { accessFlags := 26, nameIndex := 224, descriptorIndex := 68, attributes := #[] }, { accessFlags := 26, nameIndex := 226, descriptorIndex := 68, attributes := #[] }, { accessFlags := 26, nameIndex := 228, descriptorIndex := 68, attributes := #[] }, { accessFlags := 26, nameIndex := 230, descriptorIndex := 68, attributes := #[] }, { accessFlags := 26, nameIndex := 231, descriptorIndex := 68, attributes := #[] }, { accessFlags := 26, nameIndex := 233, descriptorIndex := 68, attributes := #[] }, { accessFlags := 26, nameIndex := 235, descriptorIndex := 68, attributes := #[] }, { accessFlags := 26, nameIndex := 237, descriptorIndex := 68, attributes := #[] }, { accessFlags := 26, nameIndex := 239, descriptorIndex := 68, attributes := #[] }, { accessFlags := 26, nameIndex := 241, descriptorIndex := 68, attributes := #[] }, { accessFlags := 26, nameIndex := 242, descriptorIndex := 68, attributes := #[] }, { accessFlags := 26, nameIndex := 243, descriptorIndex := 68, attributes := #[] }, { accessFlags := 26, nameIndex := 244, descriptorIndex := 68, attributes := #[] }])
  fields := #[{ name := "MAX_MIXED_INSERTION_SORT_SIZE", type := .int, accessFlags := 26, slot := 0, constantValue := 0 }, { name := "MAX_INSERTION_SORT_SIZE", type := .int, accessFlags := 26, slot := 1, constantValue := 0 }, { name := "MIN_PARALLEL_SORT_SIZE", type := .int, accessFlags := 26, slot := 2, constantValue := 0 }, { name := "MIN_TRY_MERGE_SIZE", type := .int, accessFlags := 26, slot := 3, constantValue := 0 }, { name := "MIN_FIRST_RUN_SIZE", type := .int, accessFlags := 26, slot := 4, constantValue := 0 }, { name := "MIN_FIRST_RUNS_FACTOR", type := .int, accessFlags := 26, slot := 5, constantValue := 0 }, { name := "MAX_RUN_CAPACITY", type := .int, accessFlags := 26, slot := 6, constantValue := 0 }, { name := "MIN_RUN_COUNT", type := .int, accessFlags := 26, slot := 7, constantValue := 0 }, { name := "MIN_PARALLEL_MERGE_PARTS_SIZE", type := .int, accessFlags := 26, slot := 8, constantValue := 0 }, { name := "MIN_BYTE_COUNTING_SORT_SIZE", type := .int, accessFlags := 26, slot := 9, constantValue := 0 }, { name := "MIN_SHORT_OR_CHAR_COUNTING_SORT_SIZE", type := .int, accessFlags := 26, slot := 10, constantValue := 0 }, { name := "DELTA", type := .int, accessFlags := 26, slot := 11, constantValue := 0 }, { name := "MAX_RECURSION_DEPTH", type := .int, accessFlags := 26, slot := 12, constantValue := 0 }, { name := "NUM_BYTE_VALUES", type := .int, accessFlags := 26, slot := 13, constantValue := 0 }, { name := "MAX_BYTE_INDEX", type := .int, accessFlags := 26, slot := 14, constantValue := 0 }, { name := "NUM_CHAR_VALUES", type := .int, accessFlags := 26, slot := 15, constantValue := 0 }, { name := "NUM_SHORT_VALUES", type := .int, accessFlags := 26, slot := 16, constantValue := 0 }, { name := "MAX_SHORT_INDEX", type := .int, accessFlags := 26, slot := 17, constantValue := 0 }]
  methods := #[k11m0, k11m1, k11m2, k11m3]
  instanceTypes := #[]
  staticTypes := #[.int, .int, .int, .int, .int, .int, .int, .int, .int, .int, .int, .int, .int, .int, .int, .int, .int, .int]
  resolved := Array.replicate 331 none
  statics := none }

def pool12 : Array CpInfo := pool [(1, .class_ 2), (0, u "java/lang/Math"), (1, .class_ 6), (1, u "java/lang/Object"), (0, u "<init>"), (0, u "()V"), (89, .class_ 100), (1, u "java/lang/Math$RandomNumberGeneratorHolder"), (20, u "(JJ)J"), (50, u "negativeZeroFloatBits"), (0, u "J"), (2, u "negativeZeroDoubleBits"), (68, u "$assertionsDisabled"), (0, u "Z"), (91, u "twoToTheDoubleScaleDown"), (0, u "D"), (4, u "twoToTheDoubleScaleUp"), (9, u "E"), (3, u "PI"), (2, u "TAU"), (2, u "DEGREES_TO_RADIANS"), (0, u "RADIANS_TO_DEGREES"), (27, u "addExact")] 66

def k12m0 : Method := { name := "<init>", desc := "()V", sig := { parameters := [], returnType := none }, accessFlags := 2, code := none }
def k12c1 : Code := { maxStack := 6, maxLocals := 6, code := jdk_29_method_25_code, exceptionTable := #[], attributes := #[] }
def k12m1 : Method := { name := "addExact", desc := "(JJ)J", sig := { parameters := [.long, .long], returnType := some .long }, accessFlags := 9, code := some k12c1 }
/-- java/lang/Math -/
def k12 : Class := { plain "java/lang/Math" (some 0) with
  accessFlags := 49
  interfaces := #[]
  cf := some (fileOf pool12 1 #[.nestMembers #[98]] #[{ accessFlags := 2, nameIndex := 7, descriptorIndex := 8, attributes := #[] }, { accessFlags := 9, nameIndex := 393, descriptorIndex := 121, attributes := #[] }] 49 4 #[] #[{ accessFlags := 25, nameIndex := 354, descriptorIndex := 339, attributes := #[] }, { accessFlags := 25, nameIndex := 358, descriptorIndex := 339, attributes := #[] }, { accessFlags := 25, nameIndex := 361, descriptorIndex := 339, attributes := #[] }, { accessFlags := 26, nameIndex := 364, descriptorIndex := 339, attributes := #[] }, { accessFlags := 26, nameIndex := 365, descriptorIndex := 339, attributes := #[] }, { accessFlags := 26, nameIndex := 172, descriptorIndex := 173, attributes := #[] }, { accessFlags := 26, nameIndex := 176, descriptorIndex := 173, attributes := #[] }, { accessFlags := 8, nameIndex := 344, descriptorIndex := 339, attributes := #[] }, { accessFlags := 8, nameIndex := 338, descriptorIndex := 339, attributes := #[] }, { accessFlags := 4120, nameIndex := 245, descriptorIndex := 246, attributes := #[] }])
  fields := #[{ name := "E", type := .double, accessFlags := 25, slot := 0, constantValue := 0 }, { name := "PI", type := .double, accessFlags := 25, slot := 1, constantValue := 0 }, { name := "TAU", type := .double, accessFlags := 25, slot := 2, constantValue := 0 }, { name := "DEGREES_TO_RADIANS", type := .double, accessFlags := 26, slot := 3, constantValue := 0 }, { name := "RADIANS_TO_DEGREES", type := .double, accessFlags := 26, slot := 4, constantValue := 0 }, { name := "negativeZeroFloatBits", type := .long, accessFlags := 26, slot := 5, constantValue := 0 }, { name := "negativeZeroDoubleBits", type := .long, accessFlags := 26, slot := 6, constantValue := 0 }, { name := "twoToTheDoubleScaleUp", type := .double, accessFlags := 8, slot := 7, constantValue := 0 }, { name := "twoToTheDoubleScaleDown", type := .double, accessFlags := 8, slot := 8, constantValue := 0 }, { name := "$assertionsDisabled", type := .boolean, accessFlags := 4120, slot := 9, constantValue := 0 }]
  methods := #[k12m0, k12m1]
  instanceTypes := #[]
  staticTypes := #[.double, .double, .double, .double, .double, .long, .long, .double, .double, .boolean]
  resolved := Array.replicate 460 none
  statics := none }

def pool13 : Array CpInfo := pool [(1, u "java/lang/Cloneable"), (0, .class_ 1), (0, u "java/lang/Object"), (0, .class_ 3)] 3

/-- java/lang/Cloneable -/
def k13 : Class := { plain "java/lang/Cloneable" (some 0) with
  accessFlags := 1537
  interfaces := #[]
  cf := some (fileOf pool13 2 #[] #[] 1537 4 #[] #[])
  fields := #[]
  methods := #[]
  instanceTypes := #[]
  staticTypes := #[]
  resolved := Array.replicate 8 none
  statics := none }

/-- the primitive byte -/
def k14 : Class := { plain "byte" none with kind := .primitive 'B', accessFlags := 0x411 }
/-- [B -/
def k15 : Class := { plain "[B" (some 0) with kind := .array 14 .byte, interfaces := #[13, 3], accessFlags := 1041 }

/-- the primitive int -/
def k16 : Class := { plain "int" none with kind := .primitive 'I', accessFlags := 0x411 }
/-- [I -/
def k17 : Class := { plain "[I" (some 0) with kind := .array 16 .int, interfaces := #[13, 3], accessFlags := 1041 }

/-- the primitive long -/
def k18 : Class := { plain "long" none with kind := .primitive 'J', accessFlags := 0x411 }
/-- [J -/
def k19 : Class := { plain "[J" (some 0) with kind := .array 18 .long, interfaces := #[13, 3], accessFlags := 1041 }

def heap : Heap := #[]
def classes : Array Class := #[k0, k1, k2, k3, k4, k5, k6, k7, k8, k9, k10, k11, k12, k13, k14, k15, k16, k17, k18, k19]
def interned : List (Array UInt16 × Addr) := []
def slotsUsed : Nat := 0
def theMethod : MethodId := ⟨1, 7⟩
def args0 : Array Value := #[.long 5, .long 6, .long 7, .long 8, .long 9, .long 3]
def aboutOver (below : List Frame) : State where
  vm := { classes := classes, interned := interned.toArray }
  heap := heap
  slotsUsed := slotsUsed
  threads := #[{ frames := .invoking theMethod args0 :: below }]
def below0 : List Frame := [.native { method := ⟨0, 0⟩, args := #[] }]
def about1 : State := aboutOver below0
def p0 : Program := .bare "" "" ""
def e0 : Env := launch0.env 0 0 0
theorem w_frames : about1.frames = Frame.invoking theMethod args0 :: below0 := rfl
set_option maxRecDepth 65536 in
theorem w_args : argsFit about1.vm theMethod args0 = true := by decide +kernel
set_option maxRecDepth 65536 in
theorem w_heap : heapFits about1 = true := by decide +kernel
set_option maxRecDepth 65536 in
theorem w_runnable : about1.curStatus? = some .runnable := by decide +kernel
set_option maxRecDepth 65536 in
theorem w_alone : about1.alone = true := by decide +kernel
set_option maxRecDepth 65536 in
theorem w_named : about1.methodNamed? x = some theMethod := by decide +kernel
set_option maxRecDepth 65536 in
theorem w_hears : about1.hears theMethod below0 = true := by decide +kernel
set_option maxRecDepth 65536 in
theorem w_ripe : about1.ripe theMethod args0 below0 = true := by decide +kernel
theorem w_running : about1.status = .running := rfl
set_option maxRecDepth 65536 in
theorem w_room : about1.hasRoom e0.platform room_1 = true :=
  launch0.hasRoom_least _ room_1 (by decide +kernel) (by decide +kernel) (by decide +kernel) (by decide +kernel) (by decide +kernel) (by decide +kernel)
theorem allAtoms_all (ts : List Jvm.Cond) (a : Array Jvm.Value) (st : Jvm.State) : (allAtoms ts).before a st = ts.all (fun c => c.before a st) := by
  induction ts with
  | nil => rfl
  | cons c t ih =>
    show (Jvm.Cond.and c (allAtoms t)).before a st = _
    rw [Jvm.Cond.before_and, ih, List.all_cons]
def words1 : List Jvm.Cond := Jvm.Cond.code x code maxLocals ret :: tables_1
/-- a 'code' word, met by the world's own term for the bytes: nothing is compared byte by byte -/
theorem code_word {y : MethodName} {bytes : ByteArray} {mx : Nat} {rt : Option FieldType} {a : Array Value} {s : State} {m : MethodId} {meth : Method} {c : Code} (h1 : s.methodNamed? y = some m) (h2 : s.vm.method? m = some meth) (h3 : meth.code = some c) (h4 : c.code = bytes)
    (h5 : (c.maxLocals == mx && c.exceptionTable.isEmpty && decide (c.maxStack ≤ mostOperands) && decide (meth.sig.returnType = rt) && !meth.locks && decide (parseMethodDescriptor y.desc = some meth.sig)) = true) : (Jvm.Cond.code y bytes mx rt).before a s = true := by
  simp only [Bool.and_eq_true, beq_iff_eq, Bool.not_eq_true', decide_eq_true_eq] at h5
  obtain ⟨⟨⟨⟨⟨g1, g2⟩, g3⟩, g4⟩, g5⟩, g6⟩ := h5
  simp [Cond.before, Cond.holds, Cond.value, h1, h2, h3, h4, g1, g2, g3, g4, g5, g6]
def isCode : Jvm.Cond → Bool
  | .code _ _ _ _ => true
  | _ => false
theorem all_split {L : List Jvm.Cond} {P : Jvm.Cond → Bool} (h1 : L.all (fun c => isCode c || P c) = true) (h2 : ∀ c ∈ L.filter isCode, P c = true) : L.all P = true := by
  refine List.all_eq_true.mpr fun c hc => ?_
  have h := List.all_eq_true.mp h1 c hc
  rcases Bool.eq_false_or_eq_true (isCode c) with hi | hi
  · exact h2 c (List.mem_filter.mpr ⟨hc, hi⟩)
  · simpa [hi] using h
set_option maxRecDepth 65536 in
theorem w_c0 : (Jvm.Cond.code x code maxLocals ret).before args0 about1 = true := code_word (m := ⟨1, 7⟩) (meth := k1m7) (c := k1c7) (by decide +kernel) rfl rfl rfl (by decide +kernel)
set_option maxRecDepth 65536 in
theorem w_c1 : (Jvm.Cond.code ({ cls := "com/example/pricewright/pricewright/core/LongSumTableAddPinLaw", name := "fix", desc := "(J)J" } : Jvm.MethodName) method_2_code (2 : Nat) (Option.some Jvm.ClassFile.FieldType.long)).before args0 about1 = true := code_word (m := ⟨1, 1⟩) (meth := k1m1) (c := k1c1) (by decide +kernel) rfl rfl rfl (by decide +kernel)
set_option maxRecDepth 65536 in
theorem w_c2 : (Jvm.Cond.code ({ cls := "com/example/pricewright/pricewright/core/LongSumTable", name := "<init>", desc := "()V" } : Jvm.MethodName) prog_19_method_1_code (1 : Nat) (Option.none : Option Jvm.ClassFile.FieldType)).before args0 about1 = true := code_word (m := ⟨2, 0⟩) (meth := k2m0) (c := k2c0) (by decide +kernel) rfl rfl rfl (by decide +kernel)
set_option maxRecDepth 65536 in
theorem w_c3 : (Jvm.Cond.code ({ cls := "com/example/pricewright/pricewright/core/LongSumTable", name := "<init>", desc := "(I)V" } : Jvm.MethodName) prog_19_method_2_code (3 : Nat) (Option.none : Option Jvm.ClassFile.FieldType)).before args0 about1 = true := code_word (m := ⟨2, 1⟩) (meth := k2m1) (c := k2c1) (by decide +kernel) rfl rfl rfl (by decide +kernel)
set_option maxRecDepth 65536 in
theorem w_c4 : (Jvm.Cond.code ({ cls := "java/lang/Object", name := "<init>", desc := "()V" } : Jvm.MethodName) object_method_1_code (1 : Nat) (Option.none : Option Jvm.ClassFile.FieldType)).before args0 about1 = true := code_word (m := ⟨0, 0⟩) (meth := k0m0) (c := k0c0) (by decide +kernel) rfl rfl rfl (by decide +kernel)
set_option maxRecDepth 65536 in
theorem w_c5 : (Jvm.Cond.code ({ cls := "java/lang/Long", name := "numberOfLeadingZeros", desc := "(J)I" } : Jvm.MethodName) jdk_35_method_48_code (3 : Nat) (Option.some Jvm.ClassFile.FieldType.int)).before args0 about1 = true := code_word (m := ⟨8, 0⟩) (meth := k8m0) (c := k8c0) (by decide +kernel) rfl rfl rfl (by decide +kernel)
set_option maxRecDepth 65536 in
theorem w_c6 : (Jvm.Cond.code ({ cls := "java/lang/Integer", name := "numberOfLeadingZeros", desc := "(I)I" } : Jvm.MethodName) jdk_33_method_47_code (2 : Nat) (Option.some Jvm.ClassFile.FieldType.int)).before args0 about1 = true := code_word (m := ⟨9, 0⟩) (meth := k9m0) (c := k9c0) (by decide +kernel) rfl rfl rfl (by decide +kernel)
set_option maxRecDepth 65536 in
theorem w_c7 : (Jvm.Cond.code ({ cls := "com/example/pricewright/pricewright/core/LongSumTable", name := "add", desc := "(JJ)V" } : Jvm.MethodName) prog_19_method_3_code (6 : Nat) (Option.none : Option Jvm.ClassFile.FieldType)).before args0 about1 = true := code_word (m := ⟨2, 2⟩) (meth := k2m2) (c := k2c2) (by decide +kernel) rfl rfl rfl (by decide +kernel)
set_option maxRecDepth 65536 in
theorem w_c8 : (Jvm.Cond.code ({ cls := "com/example/pricewright/pricewright/core/LongSumTable", name := "held", desc := "(J)J" } : Jvm.MethodName) prog_19_method_7_code (2 : Nat) (Option.some Jvm.ClassFile.FieldType.long)).before args0 about1 = true := code_word (m := ⟨2, 5⟩) (meth := k2m5) (c := k2c5) (by decide +kernel) rfl rfl rfl (by decide +kernel)
set_option maxRecDepth 65536 in
theorem w_c9 : (Jvm.Cond.code ({ cls := "com/example/pricewright/pricewright/core/LongSumTable", name := "index", desc := "(J)I" } : Jvm.MethodName) prog_19_method_8_code (5 : Nat) (Option.some Jvm.ClassFile.FieldType.int)).before args0 about1 = true := code_word (m := ⟨2, 6⟩) (meth := k2m6) (c := k2c6) (by decide +kernel) rfl rfl rfl (by decide +kernel)
set_option maxRecDepth 65536 in
theorem w_c10 : (Jvm.Cond.code ({ cls := "com/example/pricewright/pricewright/core/LongSumTable", name := "sortedKeys", desc := "()[J" } : Jvm.MethodName) prog_19_method_5_code (3 : Nat) (Option.some (Jvm.ClassFile.FieldType.array Jvm.ClassFile.FieldType.long))).before args0 about1 = true := code_word (m := ⟨2, 4⟩) (meth := k2m4) (c := k2c4) (by decide +kernel) rfl rfl rfl (by decide +kernel)
set_option maxRecDepth 65536 in
theorem w_c11 : (Jvm.Cond.code ({ cls := "java/util/Arrays", name := "sort", desc := "([J)V" } : Jvm.MethodName) jdk_65_method_4_code (1 : Nat) (Option.none : Option Jvm.ClassFile.FieldType)).before args0 about1 = true := code_word (m := ⟨10, 1⟩) (meth := k10m1) (c := k10c1) (by decide +kernel) rfl rfl rfl (by decide +kernel)
set_option maxRecDepth 65536 in
theorem w_c12 : (Jvm.Cond.code ({ cls := "java/util/DualPivotQuicksort", name := "sort", desc := "([JIII)V" } : Jvm.MethodName) jdk_2529_method_12_code (7 : Nat) (Option.none : Option Jvm.ClassFile.FieldType)).before args0 about1 = true := code_word (m := ⟨11, 1⟩) (meth := k11m1) (c := k11c1) (by decide +kernel) rfl rfl rfl (by decide +kernel)
set_option maxRecDepth 65536 in
theorem w_c13 : (Jvm.Cond.code ({ cls := "java/util/DualPivotQuicksort", name := "sort", desc := "(Ljava/util/DualPivotQuicksort$Sorter;[JIII)V" } : Jvm.MethodName) jdk_2529_method_13_code (25 : Nat) (Option.none : Option Jvm.ClassFile.FieldType)).before args0 about1 = true := code_word (m := ⟨11, 2⟩) (meth := k11m2) (c := k11c2) (by decide +kernel) rfl rfl rfl (by decide +kernel)
set_option maxRecDepth 65536 in
theorem w_c14 : (Jvm.Cond.code ({ cls := "java/util/DualPivotQuicksort", name := "insertionSort", desc := "([JII)V" } : Jvm.MethodName) jdk_2529_method_15_code (7 : Nat) (Option.none : Option Jvm.ClassFile.FieldType)).before args0 about1 = true := code_word (m := ⟨11, 3⟩) (meth := k11m3) (c := k11c3) (by decide +kernel) rfl rfl rfl (by decide +kernel)
set_option maxRecDepth 65536 in
theorem w_c15 : (Jvm.Cond.code ({ cls := "com/example/pricewright/pricewright/core/LongSumTableAddPinLaw", name := "fits", desc := "(JJ)Z" } : Jvm.MethodName) method_3_code (4 : Nat) (Option.some Jvm.ClassFile.FieldType.boolean)).before args0 about1 = true := code_word (m := ⟨1, 2⟩) (meth := k1m2) (c := k1c2) (by decide +kernel) rfl rfl rfl (by decide +kernel)
set_option maxRecDepth 65536 in
theorem w_c16 : (Jvm.Cond.code ({ cls := "com/example/pricewright/pricewright/core/LongSumTable", name := "resize", desc := "(I)V" } : Jvm.MethodName) prog_19_method_9_code (4 : Nat) (Option.none : Option Jvm.ClassFile.FieldType)).before args0 about1 = true := code_word (m := ⟨2, 7⟩) (meth := k2m7) (c := k2c7) (by decide +kernel) rfl rfl rfl (by decide +kernel)
set_option maxRecDepth 65536 in
theorem w_c17 : (Jvm.Cond.code ({ cls := "com/example/pricewright/pricewright/core/LongSumTable", name := "put", desc := "(JJ)V" } : Jvm.MethodName) prog_19_method_10_code (6 : Nat) (Option.none : Option Jvm.ClassFile.FieldType)).before args0 about1 = true := code_word (m := ⟨2, 8⟩) (meth := k2m8) (c := k2c8) (by decide +kernel) rfl rfl rfl (by decide +kernel)
set_option maxRecDepth 65536 in
theorem w_c18 : (Jvm.Cond.code ({ cls := "com/example/pricewright/pricewright/core/LongSumTable", name := "get", desc := "(J)J" } : Jvm.MethodName) prog_19_method_4_code (4 : Nat) (Option.some Jvm.ClassFile.FieldType.long)).before args0 about1 = true := code_word (m := ⟨2, 3⟩) (meth := k2m3) (c := k2c3) (by decide +kernel) rfl rfl rfl (by decide +kernel)
set_option maxRecDepth 65536 in
theorem w_c19 : (Jvm.Cond.code ({ cls := "com/example/pricewright/pricewright/core/LongSumTableAddPinLaw", name := "exp", desc := "(JJJZJJZJJ)J" } : Jvm.MethodName) method_5_code (16 : Nat) (Option.some Jvm.ClassFile.FieldType.long)).before args0 about1 = true := code_word (m := ⟨1, 4⟩) (meth := k1m4) (c := k1c4) (by decide +kernel) rfl rfl rfl (by decide +kernel)
set_option maxRecDepth 65536 in
theorem w_c20 : (Jvm.Cond.code ({ cls := "com/example/pricewright/pricewright/core/LongSumTableAddPinLaw", name := "part", desc := "(ZJJJ)J" } : Jvm.MethodName) method_4_code (7 : Nat) (Option.some Jvm.ClassFile.FieldType.long)).before args0 about1 = true := code_word (m := ⟨1, 3⟩) (meth := k1m3) (c := k1c3) (by decide +kernel) rfl rfl rfl (by decide +kernel)
set_option maxRecDepth 65536 in
theorem w_c21 : (Jvm.Cond.code ({ cls := "com/example/pricewright/pricewright/core/LongSumTableAddPinLaw", name := "member", desc := "(JJZJZJ)Z" } : Jvm.MethodName) method_7_code (10 : Nat) (Option.some Jvm.ClassFile.FieldType.boolean)).before args0 about1 = true := code_word (m := ⟨1, 6⟩) (meth := k1m6) (c := k1c6) (by decide +kernel) rfl rfl rfl (by decide +kernel)
set_option maxRecDepth 65536 in
theorem w_c22 : (Jvm.Cond.code ({ cls := "com/example/pricewright/pricewright/core/LongSumTableAddPinLaw", name := "in", desc := "([JJ)Z" } : Jvm.MethodName) method_6_code (3 : Nat) (Option.some Jvm.ClassFile.FieldType.boolean)).before args0 about1 = true := code_word (m := ⟨1, 5⟩) (meth := k1m5) (c := k1c5) (by decide +kernel) rfl rfl rfl (by decide +kernel)
set_option maxRecDepth 65536 in
theorem w_c23 : (Jvm.Cond.code ({ cls := "java/lang/Math", name := "addExact", desc := "(JJ)J" } : Jvm.MethodName) jdk_29_method_25_code (6 : Nat) (Option.some Jvm.ClassFile.FieldType.long)).before args0 about1 = true := code_word (m := ⟨12, 1⟩) (meth := k12m1) (c := k12c1) (by decide +kernel) rfl rfl rfl (by decide +kernel)
def codes1 : List Jvm.Cond := [Jvm.Cond.code x code maxLocals ret, Jvm.Cond.code ({ cls := "com/example/pricewright/pricewright/core/LongSumTableAddPinLaw", name := "fix", desc := "(J)J" } : Jvm.MethodName) method_2_code (2 : Nat) (Option.some Jvm.ClassFile.FieldType.long), Jvm.Cond.code ({ cls := "com/example/pricewright/pricewright/core/LongSumTable", name := "<init>", desc := "()V" } : Jvm.MethodName) prog_19_method_1_code (1 : Nat) (Option.none : Option Jvm.ClassFile.FieldType), Jvm.Cond.code ({ cls := "com/example/pricewright/pricewright/core/LongSumTable", name := "<init>", desc := "(I)V" } : Jvm.MethodName) prog_19_method_2_code (3 : Nat) (Option.none : Option Jvm.ClassFile.FieldType), Jvm.Cond.code ({ cls := "java/lang/Object", name := "<init>", desc := "()V" } : Jvm.MethodName) object_method_1_code (1 : Nat) (Option.none : Option Jvm.ClassFile.FieldType), Jvm.Cond.code ({ cls := "java/lang/Long", name := "numberOfLeadingZeros", desc := "(J)I" } : Jvm.MethodName) jdk_35_method_48_code (3 : Nat) (Option.some Jvm.ClassFile.FieldType.int), Jvm.Cond.code ({ cls := "java/lang/Integer", name := "numberOfLeadingZeros", desc := "(I)I" } : Jvm.MethodName) jdk_33_method_47_code (2 : Nat) (Option.some Jvm.ClassFile.FieldType.int), Jvm.Cond.code ({ cls := "com/example/pricewright/pricewright/core/LongSumTable", name := "add", desc := "(JJ)V" } : Jvm.MethodName) prog_19_method_3_code (6 : Nat) (Option.none : Option Jvm.ClassFile.FieldType), Jvm.Cond.code ({ cls := "com/example/pricewright/pricewright/core/LongSumTable", name := "held", desc := "(J)J" } : Jvm.MethodName) prog_19_method_7_code (2 : Nat) (Option.some Jvm.ClassFile.FieldType.long), Jvm.Cond.code ({ cls := "com/example/pricewright/pricewright/core/LongSumTable", name := "index", desc := "(J)I" } : Jvm.MethodName) prog_19_method_8_code (5 : Nat) (Option.some Jvm.ClassFile.FieldType.int), Jvm.Cond.code ({ cls := "com/example/pricewright/pricewright/core/LongSumTable", name := "sortedKeys", desc := "()[J" } : Jvm.MethodName) prog_19_method_5_code (3 : Nat) (Option.some (Jvm.ClassFile.FieldType.array Jvm.ClassFile.FieldType.long)), Jvm.Cond.code ({ cls := "java/util/Arrays", name := "sort", desc := "([J)V" } : Jvm.MethodName) jdk_65_method_4_code (1 : Nat) (Option.none : Option Jvm.ClassFile.FieldType), Jvm.Cond.code ({ cls := "java/util/DualPivotQuicksort", name := "sort", desc := "([JIII)V" } : Jvm.MethodName) jdk_2529_method_12_code (7 : Nat) (Option.none : Option Jvm.ClassFile.FieldType), Jvm.Cond.code ({ cls := "java/util/DualPivotQuicksort", name := "sort", desc := "(Ljava/util/DualPivotQuicksort$Sorter;[JIII)V" } : Jvm.MethodName) jdk_2529_method_13_code (25 : Nat) (Option.none : Option Jvm.ClassFile.FieldType), Jvm.Cond.code ({ cls := "java/util/DualPivotQuicksort", name := "insertionSort", desc := "([JII)V" } : Jvm.MethodName) jdk_2529_method_15_code (7 : Nat) (Option.none : Option Jvm.ClassFile.FieldType), Jvm.Cond.code ({ cls := "com/example/pricewright/pricewright/core/LongSumTableAddPinLaw", name := "fits", desc := "(JJ)Z" } : Jvm.MethodName) method_3_code (4 : Nat) (Option.some Jvm.ClassFile.FieldType.boolean), Jvm.Cond.code ({ cls := "com/example/pricewright/pricewright/core/LongSumTable", name := "resize", desc := "(I)V" } : Jvm.MethodName) prog_19_method_9_code (4 : Nat) (Option.none : Option Jvm.ClassFile.FieldType), Jvm.Cond.code ({ cls := "com/example/pricewright/pricewright/core/LongSumTable", name := "put", desc := "(JJ)V" } : Jvm.MethodName) prog_19_method_10_code (6 : Nat) (Option.none : Option Jvm.ClassFile.FieldType), Jvm.Cond.code ({ cls := "com/example/pricewright/pricewright/core/LongSumTable", name := "get", desc := "(J)J" } : Jvm.MethodName) prog_19_method_4_code (4 : Nat) (Option.some Jvm.ClassFile.FieldType.long), Jvm.Cond.code ({ cls := "com/example/pricewright/pricewright/core/LongSumTableAddPinLaw", name := "exp", desc := "(JJJZJJZJJ)J" } : Jvm.MethodName) method_5_code (16 : Nat) (Option.some Jvm.ClassFile.FieldType.long), Jvm.Cond.code ({ cls := "com/example/pricewright/pricewright/core/LongSumTableAddPinLaw", name := "part", desc := "(ZJJJ)J" } : Jvm.MethodName) method_4_code (7 : Nat) (Option.some Jvm.ClassFile.FieldType.long), Jvm.Cond.code ({ cls := "com/example/pricewright/pricewright/core/LongSumTableAddPinLaw", name := "member", desc := "(JJZJZJ)Z" } : Jvm.MethodName) method_7_code (10 : Nat) (Option.some Jvm.ClassFile.FieldType.boolean), Jvm.Cond.code ({ cls := "com/example/pricewright/pricewright/core/LongSumTableAddPinLaw", name := "in", desc := "([JJ)Z" } : Jvm.MethodName) method_6_code (3 : Nat) (Option.some Jvm.ClassFile.FieldType.boolean), Jvm.Cond.code ({ cls := "java/lang/Math", name := "addExact", desc := "(JJ)J" } : Jvm.MethodName) jdk_29_method_25_code (6 : Nat) (Option.some Jvm.ClassFile.FieldType.long)]
set_option maxRecDepth 65536 in
theorem codes_eq : words1.filter isCode = codes1 := rfl
theorem w_codes : ∀ c ∈ words1.filter isCode, c.before args0 about1 = true := by
  rw [codes_eq]
  intro c hc
  simp only [codes1, List.mem_cons, List.not_mem_nil, or_false] at hc
  rcases hc with rfl | rfl | rfl | rfl | rfl | rfl | rfl | rfl | rfl | rfl | rfl | rfl | rfl | rfl | rfl | rfl | rfl | rfl | rfl | rfl | rfl | rfl | rfl | rfl
  · exact w_c0
  · exact w_c1
  · exact w_c2
  · exact w_c3
  · exact w_c4
  · exact w_c5
  · exact w_c6
  · exact w_c7
  · exact w_c8
  · exact w_c9
  · exact w_c10
  · exact w_c11
  · exact w_c12
  · exact w_c13
  · exact w_c14
  · exact w_c15
  · exact w_c16
  · exact w_c17
  · exact w_c18
  · exact w_c19
  · exact w_c20
  · exact w_c21
  · exact w_c22
  · exact w_c23
set_option maxRecDepth 65536 in
theorem w_t1 : (words1.take 24).all (fun c => isCode c || c.before args0 about1) = true := by decide +kernel
set_option maxRecDepth 65536 in
theorem w_t2 : ((words1.drop 24).take 24).all (fun c => isCode c || c.before args0 about1) = true := by decide +kernel
set_option maxRecDepth 65536 in
theorem w_t3 : (((words1.drop 24).drop 24).take 24).all (fun c => isCode c || c.before args0 about1) = true := by decide +kernel
set_option maxRecDepth 65536 in
theorem w_t4 : ((((words1.drop 24).drop 24).drop 24).take 24).all (fun c => isCode c || c.before args0 about1) = true := by decide +kernel
set_option maxRecDepth 65536 in
theorem w_t5 : ((((words1.drop 24).drop 24).drop 24).drop 24).all (fun c => isCode c || c.before args0 about1) = true := by decide +kernel
theorem w_tables : (allAtoms (Jvm.Cond.code x code maxLocals ret :: tables_1)).before args0 about1 = true := by
  rw [allAtoms_all]
  show words1.all (fun c => c.before args0 about1) = true
  refine all_split ?_ w_codes
  rw [← List.take_append_drop 24 words1, List.all_append, w_t1, ← List.take_append_drop 24 (words1.drop 24), List.all_append, w_t2, ← List.take_append_drop 24 ((words1.drop 24).drop 24), List.all_append, w_t3, ← List.take_append_drop 24 (((words1.drop 24).drop 24).drop 24), List.all_append, w_t4, w_t5]
  rfl
set_option maxRecDepth 65536 in
theorem w_case : (Jvm.Cond.and given_1 narrow_1).before args0 about1 = true := by decide +kernel
theorem w_applies : (headSpec (Jvm.Cond.code x code maxLocals ret :: tables_1) room_1).applies x e0.platform about1 = true :=
  (Spec.applies_iff w_frames).mpr ⟨w_running, w_runnable, w_alone, w_named, w_hears, w_ripe, w_room, w_tables⟩
theorem atStart : AtStart classFile x code maxLocals ret World_1 tables_1 room_1 Calls_1 rest_1 Pre_1 launch0 p0 e0 about1 theMethod args0 below0 :=
  ⟨lists_1, trivial, launch0.admits_env _ _ _, launch0.least_env, fairChoices_fair.cas, fairChoices_fair.clock, w_frames, w_args, w_heap, w_applies, trivial, trivial, w_case⟩
end start1
theorem witness_1 : WitnessClaimed_1 := ⟨start1.p0, start1.e0, start1.about1, start1.theMethod, start1.args0, start1.below0, start1.atStart⟩
end Jvm.Pilot.@@N@@

import JvmDerived
import JvmDerived.Pilot.@@N@@Statement
import JvmDerived.Pilot.@@N@@Code
set_option linter.unusedVariables false
set_option linter.unusedSimpArgs false
namespace Jvm.RoadKit
open Sem ClassFile Op Lib Jvm.Stand Jvm.Free Jvm.LawKit
section New
variable {p : Program} {l : Launch} {e : Env} {R : Room} {s : State} {m : MethodId} {args : Array Value} {below : List Frame} {meth : Method} {c : Code} {T : State} {locs : List Loc} {cells slots : Nat}
theorem retI (X : Stand p l e R s m args below meth c T locs cells slots) (hx : p.tables.exec = Jvm.exec) {pc : Nat} {Ls : Array Slot} {z : Int32} {rest : List Value} (hret : meth.sig.returnType = some .int) (hd : decode c.code pc = .ok (.ireturn, 1)) {fs : List Frame}
    (hl : ∀ (f : JFrame) (acts : List Action), f.method = m → f.locked = none → f.entered = [] → (doReturn e (T.setTop f) acts (some (.int z))).1 = T.setFrames fs) : Steps p.tables e below (T.setTop (mkF m pc Ls (.int z :: rest))) (T.setFrames fs) := by
  have hm' : T.vm.method? m = some meth := X.method'
  have hn : narrow .int (.int z) = .int z := rfl
  show Steps p.tables e below (T.setTop { method := m, pc := pc, locals := Ls, stack := _ :: rest, locked := none }) _
  jvm_step X.here [X.here.top, hx, hd, hm', hret, hn]
  first | (intro acts; rw [hl _ acts rfl rfl rfl]) | rw [hl _ _ rfl rfl rfl]
  exact Steps.refl _
end New
end Jvm.RoadKit
namespace Jvm.Pilot.@@N@@
open Jvm Jvm.ClassFile Sem Op Lib Jvm.Free Jvm.Stand Jvm.LawKit Jvm.RoadKit Bundle Jvm.Pilot.@@N@@.Jvm.D
theorem own_w {α : Type _} {l : List α} {a : α} (i : Nat) (h : l[i]? = some a) : a ∈ l := List.mem_of_getElem? h
theorem own_eqint {args : Array Value} {first s : State} {o : Option Outcome} {idx : List Nat} {t : Term} {n : Int32} (h : (Jvm.Cond.eq t (.int n)).value args first o s idx = some true) : t.eval args first o idx s = some (.int n) := by
  obtain ⟨x, y, hx, hy, -, k⟩ := cmp_v (Or.inl h)
  obtain rfl : y = .int n := (Option.some.inj ((Term.int_eval n).symm.trans hy)).symm
  obtain ⟨z, rfl⟩ := k
  simp only [Cond.value, hx, hy] at h
  rw [hx, show z = n by simpa using h]
theorem own_stakeep {Z : State} {h h' : Heap} {C n d : String} {v : Value} (K : Keep h h' []) (F : Sta Z h C n d v) : Sta Z h' C n d v := F.ext ⟨K.1, fun a c q => K.2.1 a c q nin0⟩
theorem own_selpriv {s : State} {args : Array Value} {y : MethodName} {n : Nat} (hi : (Jvm.Cond.instantiable y.cls n).before args s = true) (hp : s.PrivateAt y) (hinst : (Jvm.Cond.instanceMethod y).before args s = true) (hy : y.cls ≠ "java/lang/invoke/MethodHandle" ∧ y.cls ≠ "java/lang/invoke/VarHandle") : (Jvm.Cond.selects y.cls y y).before args s = true := by
  obtain ⟨c, k, h1, h2, h3, h4, -⟩ := Cond.instantiable_spec hi
  exact selects_self_of_private h1 h2 (Bool.or_eq_false_iff.mp h4).1 hp hinst hy
theorem own_lceq {a b : Int64} (h : a = b) : lcmpW a b = 0 := by subst h; simp [lcmpW, Int64.lt_irrefl]
theorem own_lcne {a b : Int64} (h : ¬ a = b) : ¬ lcmpW a b = 0 := by
  unfold lcmpW; split
  · decide
  · first | decide | (rw [if_neg h]; decide)
theorem own_lcgt {a b : Int64} (h : b < a) : (0 : Int32) < lcmpW a b := by unfold lcmpW; rw [if_pos h]; decide
theorem own_lcngt {a b : Int64} (h : ¬ b < a) : ¬ (0 : Int32) < lcmpW a b := by unfold lcmpW; rw [if_neg h]; split <;> decide
theorem own_lclt {a b : Int64} (h : a < b) : lcmpW a b < (0 : Int32) := by
  have h1 : ¬ b < a := fun q => by rw [Int64.lt_iff_toInt_lt] at h q; omega
  have h2 : ¬ a = b := fun q => by subst q; rw [Int64.lt_iff_toInt_lt] at h; omega
  unfold lcmpW; rw [if_neg h1, if_neg h2]; decide
theorem own_lcnlt {a b : Int64} (h : ¬ a < b) : ¬ lcmpW a b < (0 : Int32) := by
  unfold lcmpW; split
  · decide
  · split
    · decide
    · rename_i h1 h2; exact absurd (Int64.toInt_inj.mp (by simp only [gt_iff_lt, Int64.lt_iff_toInt_lt] at h h1; omega)) h2
def own_FREE : Int64 := -9223372036854775808
def own_upd (f : Nat → Int64) (i : Nat) (v : Int64) : Nat → Int64 := fun j => if j = i then v else f j
theorem own_updE (f : Nat → Int64) (i : Nat) (v : Int64) : own_upd f i v i = v := if_pos rfl
theorem own_updN {f : Nat → Int64} {i j : Nat} {v : Int64} (h : j ≠ i) : own_upd f i v j = f j := if_neg h
def own_Idx (K : Nat → Int64) (n h : Nat) (k : Int64) (i : Nat) : Prop :=
  ∃ d, i = (h + d) % n ∧ (∀ e, e < d → K ((h + e) % n) ≠ own_FREE ∧ K ((h + e) % n) ≠ k) ∧ (K i = k ∨ K i = own_FREE)
theorem own_idx_uniq {K : Nat → Int64} {n h : Nat} {k : Int64} {i j : Nat} (a : own_Idx K n h k i) (b : own_Idx K n h k j) : i = j := by
  obtain ⟨d, e1, p, q⟩ := a
  obtain ⟨d', e2, p', q'⟩ := b
  rcases Nat.lt_trichotomy d d' with h1 | h1 | h1
  · have r := p' d h1
    rw [← e1] at r
    rcases q with q | q
    · exact absurd q r.2
    · exact absurd q r.1
  · rw [e1, e2, h1]
  · have r := p d' h1
    rw [← e2] at r
    rcases q' with q | q
    · exact absurd q r.2
    · exact absurd q r.1
theorem own_idx_upd {K : Nat → Int64} {n h : Nat} {k k' : Int64} {i j : Nat} (a : own_Idx K n h k j) (hi : K i = own_FREE) (hj : own_upd K i k' j = k ∨ own_upd K i k' j = own_FREE) : own_Idx (own_upd K i k') n h k j := by
  obtain ⟨d, e1, p, -⟩ := a
  refine ⟨d, e1, fun e he => ?_, hj⟩
  have r := p e he
  have : (h + e) % n ≠ i := fun q => r.1 (by rw [q]; exact hi)
  rw [own_updN this]; exact r
def own_cnt (K : Nat → Int64) : Nat → Nat
  | 0 => 0
  | n + 1 => own_cnt K n + (if K n = own_FREE then 0 else 1)
theorem own_cnt_congr {K K' : Nat → Int64} {n : Nat} (h : ∀ i, i < n → K i = K' i) : own_cnt K n = own_cnt K' n := by
  induction n with
  | zero => rfl
  | succ n ih => simp only [own_cnt]; rw [ih fun i hi => h i (by omega), h n (by omega)]
theorem own_cnt_free {K : Nat → Int64} {n : Nat} (h : own_cnt K n < n) : ∃ i, i < n ∧ K i = own_FREE := by
  induction n with
  | zero => omega
  | succ n ih =>
    by_cases q : K n = own_FREE
    · exact ⟨n, by omega, q⟩
    · simp only [own_cnt, if_neg q] at h
      obtain ⟨i, a, b⟩ := ih (by omega)
      exact ⟨i, by omega, b⟩
theorem own_cnt_upd {K : Nat → Int64} {n i : Nat} {k : Int64} (hi : i < n) (hf : K i = own_FREE) (hk : k ≠ own_FREE) : own_cnt (own_upd K i k) n = own_cnt K n + 1 := by
  induction n with
  | zero => omega
  | succ n ih =>
    by_cases q : i = n
    · subst q
      have e : own_cnt (own_upd K i k) i = own_cnt K i := own_cnt_congr fun j hj => own_updN (by omega)
      simp only [own_cnt, e, own_updE, if_neg hk, if_pos hf] <;> omega
    · have e := ih (by omega)
      simp only [own_cnt, e, own_updN (show n ≠ i by omega)] <;> omega
theorem own_cnt_le (K : Nat → Int64) (n : Nat) : own_cnt K n ≤ n := by
  induction n with
  | zero => exact Nat.le_refl 0
  | succ n ih => simp only [own_cnt]; split <;> omega
theorem own_cnt_mono (K : Nat → Int64) {i n : Nat} (h : i ≤ n) : own_cnt K i ≤ own_cnt K n := by
  induction n with
  | zero => rw [Nat.le_zero.mp h]; exact Nat.le_refl _
  | succ n ih =>
    by_cases q : i = n + 1
    · subst q; exact Nat.le_refl _
    · have := ih (by omega); simp only [own_cnt]; omega
/-- the slots' keys K and sums W (n slots) hold the sums m over the keys D -/
def own_Rep (K W : Nat → Int64) (n : Nat) (hs : Int64 → Nat) (D : Int64 → Prop) (m : Int64 → Int64) (sz : Nat) : Prop :=
  (∀ i, i < n → K i ≠ own_FREE → own_Idx K n (hs (K i)) (K i) i ∧ D (K i) ∧ W i = m (K i)) ∧ (∀ k, D k → k ≠ own_FREE ∧ ∃ i, i < n ∧ K i = k) ∧ (∀ k, ¬ D k → m k = 0) ∧ own_cnt K n = sz
theorem own_rep_empty {K W : Nat → Int64} {n : Nat} {hs : Int64 → Nat} (h : ∀ i, i < n → K i = own_FREE) : own_Rep K W n hs (fun _ => False) (fun _ => 0) 0 := by
  refine ⟨fun i hi q => absurd (h i hi) q, fun k q => q.elim, fun _ _ => rfl, ?_⟩
  induction n with
  | zero => rfl
  | succ n ih => simp only [own_cnt, h n (Nat.lt_succ_self n), if_pos, ih fun i hi => h i (by omega)]
section OwnRep
variable {K W : Nat → Int64} {n : Nat} {hs : Int64 → Nat} {D : Int64 → Prop} {m : Int64 → Int64} {sz : Nat} {k : Int64} {i : Nat}
theorem own_rep_inj (R : own_Rep K W n hs D m sz) {j : Nat} (hi : i < n) (hj : j < n) (e : K i = K j) (hk : K i ≠ own_FREE) : i = j := by
  have a := (R.1 i hi hk).1
  have b := (R.1 j hj (e ▸ hk)).1
  rw [← e] at b
  exact own_idx_uniq a b
theorem own_rep_none (R : own_Rep K W n hs D m sz) (I : own_Idx K n (hs k) k i) (hf : K i = own_FREE) : ¬ D k := fun q => by
  obtain ⟨hk, j, hj, e⟩ := R.2.1 k q
  have b := (R.1 j hj (e ▸ hk)).1
  rw [e] at b
  have := own_idx_uniq I b
  subst this
  exact hk (e.symm.trans hf)
theorem own_rep_get (R : own_Rep K W n hs D m sz) (hi : i < n) (hk : k ≠ own_FREE) (I : own_Idx K n (hs k) k i) : (if K i = k then W i else 0) = m k := by
  by_cases q : K i = k
  · rw [if_pos q, (R.1 i hi (q ▸ hk)).2.2, q]
  · rw [if_neg q]
    obtain ⟨-, -, -, h | h⟩ := id I
    · exact absurd h q
    · exact (R.2.2.1 k (own_rep_none R I h)).symm
theorem own_rep_dom (R : own_Rep K W n hs D m sz) (hi : i < n) (hk : k ≠ own_FREE) (q : K i = k) : D k ∧ W i = m k := by
  have := (R.1 i hi (q ▸ hk)).2
  rw [q] at this; exact this
theorem own_rep_found (R : own_Rep K W n hs D m sz) (hi : i < n) (hk : k ≠ own_FREE) (q : K i = k) (v : Int64) : own_Rep K (own_upd W i v) n hs D (fun x => if x = k then v else m x) sz := by
  refine ⟨fun j hj hn => ?_, R.2.1, fun x hx => ?_, R.2.2.2⟩
  · obtain ⟨a, b, c⟩ := R.1 j hj hn
    refine ⟨a, b, ?_⟩
    show own_upd W i v j = (if K j = k then v else m (K j))
    by_cases e : j = i
    · subst e; rw [own_updE, if_pos q]
    · have z1 : ¬ K j = k := fun z => e (own_rep_inj R hj hi (z.trans q.symm) hn)
      rw [own_updN e, if_neg z1]; exact c
  · show (if x = k then v else m x) = 0
    have z1 : ¬ x = k := fun z => hx (by rw [z]; exact (own_rep_dom R hi hk q).1)
    rw [if_neg z1]; exact R.2.2.1 x hx
theorem own_rep_put (R : own_Rep K W n hs D m sz) (hi : i < n) (hk : k ≠ own_FREE) (I : own_Idx K n (hs k) k i) (hf : K i = own_FREE) (v : Int64) : own_Rep (own_upd K i k) (own_upd W i v) n hs (fun x => D x ∨ x = k) (fun x => if x = k then v else m x) (sz + 1) := by
  have hD := own_rep_none R I hf
  refine ⟨fun j hj hn => ?_, fun x hx => ?_, fun x hx => ?_, ?_⟩
  · by_cases e : j = i
    · subst e
      rw [own_updE, own_updE]
      exact ⟨own_idx_upd I hf (Or.inl (own_updE _ _ _)), Or.inr rfl, (if_pos rfl).symm⟩
    · rw [own_updN e] at hn ⊢
      obtain ⟨a, b, c⟩ := R.1 j hj hn
      refine ⟨own_idx_upd a hf (Or.inl (own_updN e)), Or.inl b, ?_⟩
      have z1 : ¬ K j = k := fun z => hD (by rw [← z]; exact b)
      show own_upd W i v j = (if K j = k then v else m (K j))
      rw [own_updN e, if_neg z1]; exact c
  · rcases hx with hx | rfl
    · obtain ⟨a, j, b, c⟩ := R.2.1 x hx
      refine ⟨a, j, b, ?_⟩
      rw [own_updN fun z => a (by rw [← c, z]; exact hf)]; exact c
    · exact ⟨hk, i, hi, own_updE _ _ _⟩
  · show (if x = k then v else m x) = 0
    rw [if_neg fun z => hx (Or.inr z)]; exact R.2.2.1 x fun z => hx (Or.inl z)
  · rw [own_cnt_upd hi hf hk, R.2.2.2]
theorem own_rep_eq {D' : Int64 → Prop} {m' : Int64 → Int64} {sz' : Nat} (R : own_Rep K W n hs D m sz) (h1 : ∀ k, D k ↔ D' k) (h2 : ∀ k, m k = m' k) (h3 : sz = sz') : own_Rep K W n hs D' m' sz' := by
  have e1 : D = D' := funext fun k => propext (h1 k)
  have e2 : m = m' := funext h2
  subst e1 e2 h3; exact R
end OwnRep
/-- what has been copied of the first i slots -/
def own_Part (K : Nat → Int64) (i : Nat) (k : Int64) : Prop := k ≠ own_FREE ∧ ∃ j, j < i ∧ K j = k
open Classical in
theorem own_part_skip {K K2 W2 : Nat → Int64} {n2 : Nat} {hs2 : Int64 → Nat} {m : Int64 → Int64} {i : Nat} (R : own_Rep K2 W2 n2 hs2 (own_Part K i) (fun x => if own_Part K i x then m x else 0) (own_cnt K i)) (h : K i = own_FREE) :
    own_Rep K2 W2 n2 hs2 (own_Part K (i + 1)) (fun x => if own_Part K (i + 1) x then m x else 0) (own_cnt K (i + 1)) := by
  have e : ∀ x, own_Part K i x ↔ own_Part K (i + 1) x := fun x => ⟨fun ⟨a, j, b, c⟩ => ⟨a, j, by omega, c⟩, fun ⟨a, j, b, c⟩ => ⟨a, j, by
    by_cases z : j = i
    · subst z; exact absurd (c.symm.trans h) a
    · omega, c⟩⟩
  refine own_rep_eq R e (fun x => ?_) (by simp only [own_cnt, if_pos h]; omega)
  by_cases q : own_Part K i x
  · rw [if_pos q, if_pos ((e x).mp q)]
  · rw [if_neg q, if_neg fun z => q ((e x).mpr z)]
open Classical in
theorem own_part_put {K W : Nat → Int64} {n : Nat} {hs : Int64 → Nat} {D : Int64 → Prop} {m : Int64 → Int64} {sz : Nat} {K2 W2 : Nat → Int64} {n2 : Nat} {hs2 : Int64 → Nat} {i j : Nat} (R0 : own_Rep K W n hs D m sz) (hi : i < n) (h : K i ≠ own_FREE)
    (R : own_Rep K2 W2 n2 hs2 (own_Part K i) (fun x => if own_Part K i x then m x else 0) (own_cnt K i)) (hj : j < n2) (I : own_Idx K2 n2 (hs2 (K i)) (K i) j) :
    K2 j = own_FREE ∧ own_Rep (own_upd K2 j (K i)) (own_upd W2 j (W i)) n2 hs2 (own_Part K (i + 1)) (fun x => if own_Part K (i + 1) x then m x else 0) (own_cnt K (i + 1)) := by
  have hf : K2 j = own_FREE := by
    obtain ⟨-, -, -, q | q⟩ := id I
    · have := (own_rep_dom R hj h q).1
      obtain ⟨-, r, b, c⟩ := this
      have := own_rep_inj R0 (Nat.lt_trans b hi) hi c (c ▸ h)
      omega
    · exact q
  refine ⟨hf, ?_⟩
  have P := own_rep_put R hj h I hf (W i)
  refine own_rep_eq P (fun x => ?_) (fun x => ?_) (by simp only [own_cnt, if_neg h])
  · constructor
    · rintro (⟨a, r, b, c⟩ | rfl)
      · exact ⟨a, r, by omega, c⟩
      · exact ⟨h, i, by omega, rfl⟩
    · rintro ⟨a, r, b, c⟩
      by_cases z : r = i
      · subst z; exact Or.inr c.symm
      · exact Or.inl ⟨a, r, by omega, c⟩
  · show (if x = K i then W i else if own_Part K i x then m x else 0) = if own_Part K (i + 1) x then m x else 0
    by_cases z : x = K i
    · subst z
      have z1 : own_Part K (i + 1) (K i) := ⟨h, i, Nat.lt_succ_self i, rfl⟩
      rw [if_pos rfl, if_pos z1]
      exact (R0.1 i hi h).2.2
    · rw [if_neg z]
      by_cases q : own_Part K i x
      · have z1 : own_Part K (i + 1) x := by obtain ⟨a, r, b, c⟩ := q; exact ⟨a, r, by omega, c⟩
        rw [if_pos q, if_pos z1]
      · have z1 : ¬ own_Part K (i + 1) x := fun ⟨a, r, b, c⟩ => q ⟨a, r, by
          by_cases y : r = i
          · subst y; exact absurd c.symm z
          · omega, c⟩
        rw [if_neg q, if_neg z1]
open Classical in
theorem own_part_all {K W : Nat → Int64} {n : Nat} {hs : Int64 → Nat} {D : Int64 → Prop} {m : Int64 → Int64} {sz : Nat} {K2 W2 : Nat → Int64} {n2 : Nat} {hs2 : Int64 → Nat} (R0 : own_Rep K W n hs D m sz)
    (R : own_Rep K2 W2 n2 hs2 (own_Part K n) (fun x => if own_Part K n x then m x else 0) (own_cnt K n)) : own_Rep K2 W2 n2 hs2 D m sz := by
  have e : ∀ x, own_Part K n x ↔ D x := fun x => ⟨fun ⟨a, j, b, c⟩ => (own_rep_dom R0 b a c).1, fun q => by obtain ⟨a, j, b, c⟩ := R0.2.1 x q; exact ⟨a, j, b, c⟩⟩
  refine own_rep_eq R e (fun x => ?_) R0.2.2.2
  by_cases q : own_Part K n x
  · rw [if_pos q]
  · rw [if_neg q, R0.2.2.1 x fun z => q ((e x).mpr z)]
open Classical in
theorem own_part_none {K K2 W2 : Nat → Int64} {n2 : Nat} {hs2 : Int64 → Nat} {m : Int64 → Int64} (h : ∀ i, i < n2 → K2 i = own_FREE) : own_Rep K2 W2 n2 hs2 (own_Part K 0) (fun x => if own_Part K 0 x then m x else 0) (own_cnt K 0) := by
  refine own_rep_eq (own_rep_empty h) (fun x => ⟨fun q => q.elim, fun ⟨_, j, b, _⟩ => by omega⟩) (fun x => ?_) rfl
  have z1 : ¬ own_Part K 0 x := fun ⟨_, j, b, _⟩ => by omega
  rw [if_neg z1]
def own_K (arr : List Int64) (i : Nat) : Int64 := arr.getD (2 * i) 0
def own_W (arr : List Int64) (i : Nat) : Int64 := arr.getD (2 * i + 1) 0
def own_p (i : Nat) : Int32 := Int32.ofNat (2 * i)
def own_hs (n : Nat) (k : Int64) : Nat := (k * (-7046029254386353131)).toUInt64.toNat / (if n = 4 then 2 ^ 62 else 2 ^ 61)
def own_new4 : List Int64 := [-9223372036854775808, 0, -9223372036854775808, 0, -9223372036854775808, 0, -9223372036854775808, 0]
def own_new8 : List Int64 := [-9223372036854775808, 0, -9223372036854775808, 0, -9223372036854775808, 0, -9223372036854775808, 0, -9223372036854775808, 0, -9223372036854775808, 0, -9223372036854775808, 0, -9223372036854775808, 0]
theorem own_new4K : ∀ i, i < 4 → own_K own_new4 i = own_FREE := fun i hi => (by decide +kernel : ∀ i : Fin 4, own_K own_new4 i.1 = own_FREE) ⟨i, hi⟩
theorem own_new8K : ∀ i, i < 8 → own_K own_new8 i = own_FREE := fun i hi => (by decide +kernel : ∀ i : Fin 8, own_K own_new8 i.1 = own_FREE) ⟨i, hi⟩
theorem own_ld (arr : List Int64) (j : Nat) : (arr.map Value.long).getD j (.long (0 : Int64)) = .long (arr.getD j 0) := by
  simp only [List.getD_eq_getElem?_getD, List.getElem?_map]; cases arr[j]? <;> rfl
theorem own_hn {n : Nat} {sh : Int32} (h : (n = 4 ∧ sh = 62) ∨ (n = 8 ∧ sh = 61)) : n = 4 ∨ n = 8 := h.elim (fun q => Or.inl q.1) fun q => Or.inr q.1
theorem own_n0 {n : Nat} (h : n = 4 ∨ n = 8) : 0 < n := by omega
theorem own_lt8 {i n : Nat} (h : i < n) (hn : n = 4 ∨ n = 8) : i < 8 := by omega
theorem own_pN {i : Nat} (h : i < 8) : (own_p i).toNatClampNeg = 2 * i := (by decide +kernel : ∀ i : Fin 8, (own_p i.1).toNatClampNeg = 2 * i.1) ⟨i, h⟩
theorem own_p0 {i : Nat} (h : i < 8) : ¬ own_p i < 0 := (by decide +kernel : ∀ i : Fin 8, ¬ own_p i.1 < 0) ⟨i, h⟩
theorem own_qN {i : Nat} (h : i < 8) : (own_p i + (1 : Int32)).toNatClampNeg = 2 * i + 1 := (by decide +kernel : ∀ i : Fin 8, (own_p i.1 + (1 : Int32)).toNatClampNeg = 2 * i.1 + 1) ⟨i, h⟩
theorem own_q0 {i : Nat} (h : i < 8) : ¬ own_p i + (1 : Int32) < 0 := (by decide +kernel : ∀ i : Fin 8, ¬ own_p i.1 + (1 : Int32) < 0) ⟨i, h⟩
theorem own_plt {i n : Nat} (h : i < n) (hn : n = 4 ∨ n = 8) : own_p i < Int32.ofNat (2 * n) := by
  rcases hn with rfl | rfl
  · exact (by decide +kernel : ∀ i : Fin 4, own_p i.1 < Int32.ofNat (2 * 4)) ⟨i, h⟩
  · exact (by decide +kernel : ∀ i : Fin 8, own_p i.1 < Int32.ofNat (2 * 8)) ⟨i, h⟩
theorem own_qlt {i n : Nat} (h : i < n) (hn : n = 4 ∨ n = 8) : own_p i + (1 : Int32) < Int32.ofNat (2 * n) := by
  rcases hn with rfl | rfl
  · exact (by decide +kernel : ∀ i : Fin 4, own_p i.1 + (1 : Int32) < Int32.ofNat (2 * 4)) ⟨i, h⟩
  · exact (by decide +kernel : ∀ i : Fin 8, own_p i.1 + (1 : Int32) < Int32.ofNat (2 * 8)) ⟨i, h⟩
theorem own_pnext {i n : Nat} (h : i < n) (hn : n = 4 ∨ n = 8) : ((own_p i + (2 : Int32)) &&& (Int32.ofNat (2 * n) - (1 : Int32))) = own_p ((i + 1) % n) := by
  rcases hn with rfl | rfl
  · exact (by decide +kernel : ∀ i : Fin 4, ((own_p i.1 + (2 : Int32)) &&& (Int32.ofNat (2 * 4) - (1 : Int32))) = own_p ((i.1 + 1) % 4)) ⟨i, h⟩
  · exact (by decide +kernel : ∀ i : Fin 8, ((own_p i.1 + (2 : Int32)) &&& (Int32.ofNat (2 * 8) - (1 : Int32))) = own_p ((i.1 + 1) % 8)) ⟨i, h⟩
theorem own_ldK (arr : List Int64) {i : Nat} (h : i < 8) : (arr.map Value.long).getD (own_p i).toNatClampNeg (.long (0 : Int64)) = .long (own_K arr i) := by rw [own_pN h]; exact own_ld arr _
theorem own_ldW (arr : List Int64) {i : Nat} (h : i < 8) : (arr.map Value.long).getD (own_p i + (1 : Int32)).toNatClampNeg (.long (0 : Int64)) = .long (own_W arr i) := by rw [own_qN h]; exact own_ld arr _
theorem own_mod1 {i f n : Nat} : (i + (f + 1)) % n = ((i + 1) % n + f) % n := by rw [Nat.mod_add_mod]; congr 1; omega
theorem own_idx_step {K : Nat → Int64} {n i i' : Nat} {k : Int64} (hi : i < n) (h1 : ¬ K i = k) (h2 : ¬ K i = own_FREE) (P : own_Idx K n ((i + 1) % n) k i') : own_Idx K n i k i' := by
  obtain ⟨d, e1, p, q⟩ := P
  refine ⟨d + 1, by rw [own_mod1]; exact e1, fun e he => ?_, q⟩
  cases e with
  | zero => rw [Nat.add_zero, Nat.mod_eq_of_lt hi]; exact ⟨h2, h1⟩
  | succ e => rw [own_mod1]; exact p e (by omega)
theorem own_hslt (k : Int64) {n : Nat} (hn : n = 4 ∨ n = 8) : own_hs n k < n := by
  have h := (k * (-7046029254386353131)).toUInt64.toNat_lt
  rcases hn with rfl | rfl
  · show _ / (if 4 = 4 then 2 ^ 62 else 2 ^ 61) < 4; rw [if_pos rfl]; omega
  · show _ / (if 8 = 4 then 2 ^ 62 else 2 ^ 61) < 8; rw [if_neg (by decide)]; omega
theorem own_far {K : Nat → Int64} {n h : Nat} (hf : ∃ j, j < n ∧ K j = own_FREE) (hh : h < n) : ∃ f, K ((h + f) % n) = own_FREE := by
  obtain ⟨j, hj, e⟩ := hf
  refine ⟨j + n - h, ?_⟩
  rw [show h + (j + n - h) = j + n by omega, Nat.add_mod_right, Nat.mod_eq_of_lt hj]; exact e
theorem own_sh (y : UInt64) (h : y.toNat < 8) : (y.toInt64.toInt32 <<< ((1 : Int32) &&& 31)) = own_p y.toNat := by
  have e : y = UInt64.ofNat y.toNat := (UInt64.ofNat_toNat).symm
  rw [e, UInt64.toNat_ofNat_of_lt' (Nat.lt_trans h (by decide))]
  exact (by decide +kernel : ∀ j : Fin 8, ((UInt64.ofNat j.1).toInt64.toInt32 <<< ((1 : Int32) &&& 31)) = own_p j.1) ⟨_, h⟩
theorem own_hash (k : Int64) {n : Nat} {sh : Int32} (hns : (n = 4 ∧ sh = 62) ∨ (n = 8 ∧ sh = 61)) : (((((k * (-7046029254386353131 : Int64)).toUInt64 >>> (sh &&& 0x3f).toInt64.toUInt64).toInt64).toInt32) <<< ((1 : Int32) &&& 31)) = own_p (own_hs n k) := by
  have h := (k * (-7046029254386353131)).toUInt64.toNat_lt
  rcases hns with ⟨rfl, rfl⟩ | ⟨rfl, rfl⟩
  · have e : ((k * (-7046029254386353131 : Int64)).toUInt64 >>> ((62 : Int32) &&& 0x3f).toInt64.toUInt64).toNat = own_hs 4 k := by
      rw [show ((62 : Int32) &&& 0x3f).toInt64.toUInt64 = (62 : UInt64) from by decide, UInt64.toNat_shiftRight, Nat.shiftRight_eq_div_pow]
      show _ / 2 ^ 62 = _ / (if 4 = 4 then 2 ^ 62 else 2 ^ 61); rw [if_pos rfl]
    rw [← e]; exact own_sh _ (by rw [e]; have := own_hslt k (n := 4) (Or.inl rfl); omega)
  · have e : ((k * (-7046029254386353131 : Int64)).toUInt64 >>> ((61 : Int32) &&& 0x3f).toInt64.toUInt64).toNat = own_hs 8 k := by
      rw [show ((61 : Int32) &&& 0x3f).toInt64.toUInt64 = (61 : UInt64) from by decide, UInt64.toNat_shiftRight, Nat.shiftRight_eq_div_pow]
      show _ / 2 ^ 61 = _ / (if 8 = 4 then 2 ^ 62 else 2 ^ 61); rw [if_neg (by decide)]
    rw [← e]; exact own_sh _ (by rw [e]; exact own_hslt k (n := 8) (Or.inr rfl))
theorem own_Kins {arr : List Int64} {i n : Nat} {k v : Int64} (hl : arr.length = 2 * n) (hi : i < n) : own_K ((arr.set (2 * i) k).set (2 * i + 1) v) = own_upd (own_K arr) i k := funext fun j => by
  unfold own_K own_upd
  simp only [List.getD_eq_getElem?_getD]
  rw [List.getElem?_set_ne (by omega)]
  by_cases q : j = i
  · subst q; rw [if_pos rfl, List.getElem?_set_self (by omega)]; rfl
  · rw [if_neg q, List.getElem?_set_ne (by omega)]
theorem own_Wins {arr : List Int64} {i n : Nat} {k v : Int64} (hl : arr.length = 2 * n) (hi : i < n) : own_W ((arr.set (2 * i) k).set (2 * i + 1) v) = own_upd (own_W arr) i v := funext fun j => by
  unfold own_W own_upd
  simp only [List.getD_eq_getElem?_getD]
  by_cases q : j = i
  · subst q; rw [if_pos rfl, List.getElem?_set_self (by rw [List.length_set]; omega)]; rfl
  · rw [if_neg q, List.getElem?_set_ne (by omega), List.getElem?_set_ne (by omega)]
theorem own_Kset {arr : List Int64} {i : Nat} {v : Int64} : own_K (arr.set (2 * i + 1) v) = own_K arr := funext fun j => by
  unfold own_K; simp only [List.getD_eq_getElem?_getD]; rw [List.getElem?_set_ne (by omega)]
theorem own_Wset {arr : List Int64} {i n : Nat} {v : Int64} (hl : arr.length = 2 * n) (hi : i < n) : own_W (arr.set (2 * i + 1) v) = own_upd (own_W arr) i v := funext fun j => by
  unfold own_W own_upd
  simp only [List.getD_eq_getElem?_getD]
  by_cases q : j = i
  · subst q; rw [if_pos rfl, List.getElem?_set_self (by omega)]; rfl
  · rw [if_neg q, List.getElem?_set_ne (by omega)]
theorem ne_arrV {Z : State} {h : Heap} {t a : Addr} {C : String} {a0 : Array Value} {n : Nat} {k : ClassId} {ty : FieldType} {z : Int32} {vs : List Value} {d : Value} (E : Exa Z h t C) (wi : (Jvm.Cond.instantiable C n).before a0 Z = true) (A : Arv Z h a k ty z vs d) : t ≠ a := by
  obtain ⟨c, Ar, -⟩ := A; exact ne_arr E wi Ar

theorem d7_0 : decode prog_19_method_7_code 0 = .ok (.lload_n 0, 1) := by decide +kernel
theorem d7_1 : decode prog_19_method_7_code 1 = .ok (.ldc2_w 18, 3) := by decide +kernel
theorem d7_4 : decode prog_19_method_7_code 4 = .ok (.lcmp, 1) := by decide +kernel
theorem d7_5 : decode prog_19_method_7_code 5 = .ok (.ifCond .ne 13, 3) := by decide +kernel
theorem d7_18 : decode prog_19_method_7_code 18 = .ok (.lload_n 0, 1) := by decide +kernel
theorem d7_19 : decode prog_19_method_7_code 19 = .ok (.lreturn, 1) := by decide +kernel
theorem pn_7 : plainName "com/example/pricewright/pricewright/core/LongSumTable" = true := by first | (simp [plainName, overriddenIn]; done) | decide +kernel
theorem ef_rmH (m : MethodId) (q1 : Int64) : entryFrame m #[(.long q1)] 2 = mkF m 0 #[.val (.long q1), .second] [] := by first | (simp [entryFrame, mkF, argsToLocals, Value.category]; done) | rfl
def QrmH (Z : State) (q1 : Int64) (h0 : Heap) (n0 : Nat) (v : Option Value) (h : Heap) (L : List Loc) : Prop := ∃ z : Int64, z = (q1) ∧ v = some (.long z) ∧ Fr n0 L ∧ h = h0
set_option maxRecDepth 65536 in
set_option maxHeartbeats 40000000 in
theorem rmH (l : Launch) (Z : State) (a0 : Array Value) (hw : ∀ d ∈ tables_1, d.before a0 Z = true) (ws : List Jvm.Cond) (q1 : Int64) (h0 : Heap) (n0 : Nat) (Z0 : n0 ≤ h0.size) (hk : ¬ q1 = (-9223372036854775808 : Int64)) :
    MetFree l (⟨"com/example/pricewright/pricewright/core/LongSumTable", "held", "(J)J"⟩ : MethodName) (head1 (Jvm.Cond.code (⟨"com/example/pricewright/pricewright/core/LongSumTable", "held", "(J)J"⟩ : MethodName) prog_19_method_7_code 2 (some .long) :: ws) ({ frames := 0, cells := 0, slots := 0, locals := 0 } : Room)) (fun a U => a = #[(.long q1)] ∧ Z.Warmed39 U.vm ∧ U.heap = h0) (fun _ _ _ _ _ => True) (fun _ U o U' => ∃ v L, o = .returned v ∧ QrmH Z q1 h0 n0 v U'.heap L ∧ FrameEnd U o U' L ({ frames := 0, cells := 0, slots := 0, locals := 0 } : Room).cells ({ frames := 0, cells := 0, slots := 0, locals := 0 } : Room).slots) := by
  refine MetFree.of_bodySF (plainFor_of_name pn_7) hisR ?_
  intro p e s m args below meth c s₁ Bd hml0 hP hK
  obtain ⟨rfl, hZ, hh⟩ := hP
  have hx := Bd.exec
  have hby := Bd.bytes
  have hml : c.maxLocals = 2 := hml0
  have hown : s.vm.findClass "com/example/pricewright/pricewright/core/LongSumTable" = some m.cls := findClass_of_methodNamed Bd.named
  have hnm := (name_of_methodNamed Bd.named Bd.method).1
  have X0 : Stand p l e ({ frames := 0, cells := 0, slots := 0, locals := 0 } : Room) s m #[(.long q1)] below meth c s₁ [] 0 0 := Stand.of_body Bd
  have e0 : s₁.heap = h0 := by rw [← hh, Bd.state]; rfl
  have N0 := Fr.nil n0
  have pre0 : ∀ t, Steps p.tables e below (s₁.setTop (mkF m 0 #[.val (.long q1), .second] [])) t → Steps p.tables e below (s₁.setTop (entryFrame m #[(.long q1)] 2)) t := fun t k => castTop (ef_rmH m q1) k
  obtain ⟨fs, hr, hrun, hended, hW, hsame⟩ := X0.leave (v := some (.long q1)) (fun h => by rw [Bd.returns] at h; cases h) (BodyLoose.notSynchronized Bd)
  refine ⟨_, _, pre0 _ ?_, hrun, hended, _, _, rfl, ?_, ⟨_, rfl⟩, hW, hsame.mono (by decide) (by decide)⟩
  · show Steps p.tables e below (s₁.setTop (mkF m 0 #[.val (.long q1), .second] [])) _
    refine XS.lloadN X0.here hx rfl (hb hby d7_0) rfl ?_
    refine X0.ldc2Long hx hown (mvT hZ (hw _ (own_w 15 rfl))) (g := (mkF m 1 #[.val (.long q1), .second] [(.long q1)])) rfl (hb hby d7_1) _ ?_
    refine XS.lcmp X0.here hx rfl (hb hby d7_4) rfl ?_
    refine XS.ifYes X0.here hx rfl (pc0 := 5) (pc' := 18) rfl (hb hby d7_5) rfl ((if0 _ _).trans (feq (own_lcne hk)).2) (by decide) (by decide) ?_
    refine XS.lloadN X0.here hx rfl (hb hby d7_18) rfl ?_
    show Steps p.tables e below (s₁.setTop (mkF m 19 #[.val (.long q1), .second] [(.long q1)])) _
    exact X0.lreturnOut hx Bd.returns (hb hby d7_19) hr
  · show QrmH Z q1 h0 n0 _ s₁.heap _
    exact ⟨_, rfl, rfl, N0, e0⟩
theorem d5_0 : decode jdk_33_method_47_code 0 = .ok (.iload_n 0, 1) := by decide +kernel
theorem d5_1 : decode jdk_33_method_47_code 1 = .ok (.ifCond .gt 14, 3) := by decide +kernel
theorem d5_15 : decode jdk_33_method_47_code 15 = .ok (.bipush 31, 2) := by decide +kernel
theorem d5_17 : decode jdk_33_method_47_code 17 = .ok (.istore_n 1, 1) := by decide +kernel
theorem d5_18 : decode jdk_33_method_47_code 18 = .ok (.iload_n 0, 1) := by decide +kernel
theorem d5_19 : decode jdk_33_method_47_code 19 = .ok (.ldc_w 264, 3) := by decide +kernel
theorem d5_22 : decode jdk_33_method_47_code 22 = .ok (.if_icmp .lt 11, 3) := by decide +kernel
theorem d5_33 : decode jdk_33_method_47_code 33 = .ok (.iload_n 0, 1) := by decide +kernel
theorem d5_34 : decode jdk_33_method_47_code 34 = .ok (.sipush 256, 3) := by decide +kernel
theorem d5_37 : decode jdk_33_method_47_code 37 = .ok (.if_icmp .lt 11, 3) := by decide +kernel
theorem d5_48 : decode jdk_33_method_47_code 48 = .ok (.iload_n 0, 1) := by decide +kernel
theorem d5_49 : decode jdk_33_method_47_code 49 = .ok (.bipush 16, 2) := by decide +kernel
theorem d5_51 : decode jdk_33_method_47_code 51 = .ok (.if_icmp .lt 10, 3) := by decide +kernel
theorem d5_61 : decode jdk_33_method_47_code 61 = .ok (.iload_n 0, 1) := by decide +kernel
theorem d5_62 : decode jdk_33_method_47_code 62 = .ok (.iconst 4, 1) := by decide +kernel
theorem d5_63 : decode jdk_33_method_47_code 63 = .ok (.if_icmp .lt 10, 3) := by decide +kernel
theorem d5_66 : decode jdk_33_method_47_code 66 = .ok (.iinc 1 (-2), 3) := by decide +kernel
theorem d5_69 : decode jdk_33_method_47_code 69 = .ok (.iload_n 0, 1) := by decide +kernel
theorem d5_70 : decode jdk_33_method_47_code 70 = .ok (.iconst 2, 1) := by decide +kernel
theorem d5_71 : decode jdk_33_method_47_code 71 = .ok (.iushr, 1) := by decide +kernel
theorem d5_72 : decode jdk_33_method_47_code 72 = .ok (.istore_n 0, 1) := by decide +kernel
theorem d5_73 : decode jdk_33_method_47_code 73 = .ok (.iload_n 1, 1) := by decide +kernel
theorem d5_74 : decode jdk_33_method_47_code 74 = .ok (.iload_n 0, 1) := by decide +kernel
theorem d5_75 : decode jdk_33_method_47_code 75 = .ok (.iconst 1, 1) := by decide +kernel
theorem d5_76 : decode jdk_33_method_47_code 76 = .ok (.iushr, 1) := by decide +kernel
theorem d5_77 : decode jdk_33_method_47_code 77 = .ok (.isub, 1) := by decide +kernel
theorem d5_78 : decode jdk_33_method_47_code 78 = .ok (.ireturn, 1) := by decide +kernel
theorem pn_5 : plainName "java/lang/Integer" = true := by first | (simp [plainName, overriddenIn]; done) | decide +kernel
theorem ef_rmz4 (m : MethodId)  : entryFrame m #[(.int (4 : Int32))] 2 = mkF m 0 #[.val (.int (4 : Int32)), .unset] [] := by first | (simp [entryFrame, mkF, argsToLocals, Value.category]; done) | rfl
def Qrmz4 (Z : State)  (h0 : Heap) (n0 : Nat) (v : Option Value) (h : Heap) (L : List Loc) : Prop := ∃ z : Int32, z = ((29 : Int32)) ∧ v = some (.int z) ∧ Fr n0 L ∧ h = h0
set_option maxRecDepth 65536 in
set_option maxHeartbeats 40000000 in
theorem rmz4 (l : Launch) (Z : State) (a0 : Array Value) (hw : ∀ d ∈ tables_1, d.before a0 Z = true) (ws : List Jvm.Cond)  (h0 : Heap) (n0 : Nat) (Z0 : n0 ≤ h0.size) :
    MetFree l (⟨"java/lang/Integer", "numberOfLeadingZeros", "(I)I"⟩ : MethodName) (head1 (Jvm.Cond.code (⟨"java/lang/Integer", "numberOfLeadingZeros", "(I)I"⟩ : MethodName) jdk_33_method_47_code 2 (some .int) :: ws) ({ frames := 0, cells := 0, slots := 0, locals := 0 } : Room)) (fun a U => a = #[(.int (4 : Int32))] ∧ Z.Warmed39 U.vm ∧ U.heap = h0) (fun _ _ _ _ _ => True) (fun _ U o U' => ∃ v L, o = .returned v ∧ Qrmz4 Z  h0 n0 v U'.heap L ∧ FrameEnd U o U' L ({ frames := 0, cells := 0, slots := 0, locals := 0 } : Room).cells ({ frames := 0, cells := 0, slots := 0, locals := 0 } : Room).slots) := by
  refine MetFree.of_bodySF (plainFor_of_name pn_5) hisR ?_
  intro p e s m args below meth c s₁ Bd hml0 hP hK
  obtain ⟨rfl, hZ, hh⟩ := hP
  have hx := Bd.exec
  have hby := Bd.bytes
  have hml : c.maxLocals = 2 := hml0
  have hown : s.vm.findClass "java/lang/Integer" = some m.cls := findClass_of_methodNamed Bd.named
  have hnm := (name_of_methodNamed Bd.named Bd.method).1
  have X0 : Stand p l e ({ frames := 0, cells := 0, slots := 0, locals := 0 } : Room) s m #[(.int (4 : Int32))] below meth c s₁ [] 0 0 := Stand.of_body Bd
  have e0 : s₁.heap = h0 := by rw [← hh, Bd.state]; rfl
  have N0 := Fr.nil n0
  have pre0 : ∀ t, Steps p.tables e below (s₁.setTop (mkF m 0 #[.val (.int (4 : Int32)), .unset] [])) t → Steps p.tables e below (s₁.setTop (entryFrame m #[(.int (4 : Int32))] 2)) t := fun t k => castTop (ef_rmz4 m ) k
  obtain ⟨fs, hr, hrun, hended, hW, hsame⟩ := X0.leave (v := some (.int (29 : Int32))) (fun h => by rw [Bd.returns] at h; cases h) (BodyLoose.notSynchronized Bd)
  refine ⟨_, _, pre0 _ ?_, hrun, hended, _, _, rfl, ?_, ⟨_, rfl⟩, hW, hsame.mono (by decide) (by decide)⟩
  · show Steps p.tables e below (s₁.setTop (mkF m 0 #[.val (.int (4 : Int32)), .unset] [])) _
    refine XS.iloadN X0.here hx rfl (hb hby d5_0) rfl ?_
    refine XS.ifYes X0.here hx rfl (pc0 := 1) (pc' := 15) rfl (hb hby d5_1) rfl ((if0 _ _).trans (tlt (by decide)).2.2.1) (by decide) (by decide) ?_
    refine XS.bipush X0.here hx rfl (hb hby d5_15) ?_
    refine XS.istoreN X0.here hx rfl (hb hby d5_17) rfl (l' := #[.val (.int (4 : Int32)), .val (.int (31 : Int32))]) rfl ?_
    refine XS.iloadN X0.here hx rfl (hb hby d5_18) rfl ?_
    refine X0.ldcwInt hx hown (mvT hZ (hw _ (own_w 24 rfl))) (g := (mkF m 19 #[.val (.int (4 : Int32)), .val (.int (31 : Int32))] [(.int (4 : Int32))])) rfl (hb hby d5_19) _ ?_
    refine XS.icmpYes X0.here hx rfl (pc0 := 22) (pc' := 33) rfl (hb hby d5_22) rfl (tlt (by decide)).1 (by decide) (by decide) ?_
    refine XS.iloadN X0.here hx rfl (hb hby d5_33) rfl ?_
    refine XS.sipush X0.here hx rfl (hb hby d5_34) ?_
    refine XS.icmpYes X0.here hx rfl (pc0 := 37) (pc' := 48) rfl (hb hby d5_37) rfl (tlt (by decide)).1 (by decide) (by decide) ?_
    refine XS.iloadN X0.here hx rfl (hb hby d5_48) rfl ?_
    refine XS.bipush X0.here hx rfl (hb hby d5_49) ?_
    refine XS.icmpYes X0.here hx rfl (pc0 := 51) (pc' := 61) rfl (hb hby d5_51) rfl (tlt (by decide)).1 (by decide) (by decide) ?_
    refine XS.iloadN X0.here hx rfl (hb hby d5_61) rfl ?_
    refine XS.iconst X0.here hx rfl (hb hby d5_62) ?_
    refine XS.icmpNo X0.here hx rfl (hb hby d5_63) rfl (flt (by decide)).1 ?_
    refine XS.iinc X0.here hx rfl (hb hby d5_66) rfl (l' := #[.val (.int (4 : Int32)), .val (.int (29 : Int32))]) rfl ?_
    refine XS.iloadN X0.here hx rfl (hb hby d5_69) rfl ?_
    refine XS.iconst X0.here hx rfl (hb hby d5_70) ?_
    refine XS.iushr X0.here hx rfl (hb hby d5_71) rfl ?_
    refine XS.istoreN X0.here hx rfl (hb hby d5_72) rfl (l' := #[.val (.int (1 : Int32)), .val (.int (29 : Int32))]) rfl ?_
    refine XS.iloadN X0.here hx rfl (hb hby d5_73) rfl ?_
    refine XS.iloadN X0.here hx rfl (hb hby d5_74) rfl ?_
    refine XS.iconst X0.here hx rfl (hb hby d5_75) ?_
    refine XS.iushr X0.here hx rfl (hb hby d5_76) rfl ?_
    refine XS.isub X0.here hx rfl (hb hby d5_77) rfl ?_
    show Steps p.tables e below (s₁.setTop (mkF m 78 #[.val (.int (1 : Int32)), .val (.int (29 : Int32))] [(.int (29 : Int32))])) _
    exact retI X0 hx Bd.returns (hb hby d5_78) hr
  · show Qrmz4 Z  h0 n0 _ s₁.heap _
    exact ⟨_, rfl, rfl, N0, e0⟩
theorem ef_rmz8 (m : MethodId)  : entryFrame m #[(.int (8 : Int32))] 2 = mkF m 0 #[.val (.int (8 : Int32)), .unset] [] := by first | (simp [entryFrame, mkF, argsToLocals, Value.category]; done) | rfl
def Qrmz8 (Z : State)  (h0 : Heap) (n0 : Nat) (v : Option Value) (h : Heap) (L : List Loc) : Prop := ∃ z : Int32, z = ((28 : Int32)) ∧ v = some (.int z) ∧ Fr n0 L ∧ h = h0
set_option maxRecDepth 65536 in
set_option maxHeartbeats 40000000 in
theorem rmz8 (l : Launch) (Z : State) (a0 : Array Value) (hw : ∀ d ∈ tables_1, d.before a0 Z = true) (ws : List Jvm.Cond)  (h0 : Heap) (n0 : Nat) (Z0 : n0 ≤ h0.size) :
    MetFree l (⟨"java/lang/Integer", "numberOfLeadingZeros", "(I)I"⟩ : MethodName) (head1 (Jvm.Cond.code (⟨"java/lang/Integer", "numberOfLeadingZeros", "(I)I"⟩ : MethodName) jdk_33_method_47_code 2 (some .int) :: ws) ({ frames := 0, cells := 0, slots := 0, locals := 0 } : Room)) (fun a U => a = #[(.int (8 : Int32))] ∧ Z.Warmed39 U.vm ∧ U.heap = h0) (fun _ _ _ _ _ => True) (fun _ U o U' => ∃ v L, o = .returned v ∧ Qrmz8 Z  h0 n0 v U'.heap L ∧ FrameEnd U o U' L ({ frames := 0, cells := 0, slots := 0, locals := 0 } : Room).cells ({ frames := 0, cells := 0, slots := 0, locals := 0 } : Room).slots) := by
  refine MetFree.of_bodySF (plainFor_of_name pn_5) hisR ?_
  intro p e s m args below meth c s₁ Bd hml0 hP hK
  obtain ⟨rfl, hZ, hh⟩ := hP
  have hx := Bd.exec
  have hby := Bd.bytes
  have hml : c.maxLocals = 2 := hml0
  have hown : s.vm.findClass "java/lang/Integer" = some m.cls := findClass_of_methodNamed Bd.named
  have hnm := (name_of_methodNamed Bd.named Bd.method).1
  have X0 : Stand p l e ({ frames := 0, cells := 0, slots := 0, locals := 0 } : Room) s m #[(.int (8 : Int32))] below meth c s₁ [] 0 0 := Stand.of_body Bd
  have e0 : s₁.heap = h0 := by rw [← hh, Bd.state]; rfl
  have N0 := Fr.nil n0
  have pre0 : ∀ t, Steps p.tables e below (s₁.setTop (mkF m 0 #[.val (.int (8 : Int32)), .unset] [])) t → Steps p.tables e below (s₁.setTop (entryFrame m #[(.int (8 : Int32))] 2)) t := fun t k => castTop (ef_rmz8 m ) k
  obtain ⟨fs, hr, hrun, hended, hW, hsame⟩ := X0.leave (v := some (.int (28 : Int32))) (fun h => by rw [Bd.returns] at h; cases h) (BodyLoose.notSynchronized Bd)
  refine ⟨_, _, pre0 _ ?_, hrun, hended, _, _, rfl, ?_, ⟨_, rfl⟩, hW, hsame.mono (by decide) (by decide)⟩
  · show Steps p.tables e below (s₁.setTop (mkF m 0 #[.val (.int (8 : Int32)), .unset] [])) _
    refine XS.iloadN X0.here hx rfl (hb hby d5_0) rfl ?_
    refine XS.ifYes X0.here hx rfl (pc0 := 1) (pc' := 15) rfl (hb hby d5_1) rfl ((if0 _ _).trans (tlt (by decide)).2.2.1) (by decide) (by decide) ?_
    refine XS.bipush X0.here hx rfl (hb hby d5_15) ?_
    refine XS.istoreN X0.here hx rfl (hb hby d5_17) rfl (l' := #[.val (.int (8 : Int32)), .val (.int (31 : Int32))]) rfl ?_
    refine XS.iloadN X0.here hx rfl (hb hby d5_18) rfl ?_
    refine X0.ldcwInt hx hown (mvT hZ (hw _ (own_w 24 rfl))) (g := (mkF m 19 #[.val (.int (8 : Int32)), .val (.int (31 : Int32))] [(.int (8 : Int32))])) rfl (hb hby d5_19) _ ?_
    refine XS.icmpYes X0.here hx rfl (pc0 := 22) (pc' := 33) rfl (hb hby d5_22) rfl (tlt (by decide)).1 (by decide) (by decide) ?_
    refine XS.iloadN X0.here hx rfl (hb hby d5_33) rfl ?_
    refine XS.sipush X0.here hx rfl (hb hby d5_34) ?_
    refine XS.icmpYes X0.here hx rfl (pc0 := 37) (pc' := 48) rfl (hb hby d5_37) rfl (tlt (by decide)).1 (by decide) (by decide) ?_
    refine XS.iloadN X0.here hx rfl (hb hby d5_48) rfl ?_
    refine XS.bipush X0.here hx rfl (hb hby d5_49) ?_
    refine XS.icmpYes X0.here hx rfl (pc0 := 51) (pc' := 61) rfl (hb hby d5_51) rfl (tlt (by decide)).1 (by decide) (by decide) ?_
    refine XS.iloadN X0.here hx rfl (hb hby d5_61) rfl ?_
    refine XS.iconst X0.here hx rfl (hb hby d5_62) ?_
    refine XS.icmpNo X0.here hx rfl (hb hby d5_63) rfl (flt (by decide)).1 ?_
    refine XS.iinc X0.here hx rfl (hb hby d5_66) rfl (l' := #[.val (.int (8 : Int32)), .val (.int (29 : Int32))]) rfl ?_
    refine XS.iloadN X0.here hx rfl (hb hby d5_69) rfl ?_
    refine XS.iconst X0.here hx rfl (hb hby d5_70) ?_
    refine XS.iushr X0.here hx rfl (hb hby d5_71) rfl ?_
    refine XS.istoreN X0.here hx rfl (hb hby d5_72) rfl (l' := #[.val (.int (2 : Int32)), .val (.int (29 : Int32))]) rfl ?_
    refine XS.iloadN X0.here hx rfl (hb hby d5_73) rfl ?_
    refine XS.iloadN X0.here hx rfl (hb hby d5_74) rfl ?_
    refine XS.iconst X0.here hx rfl (hb hby d5_75) ?_
    refine XS.iushr X0.here hx rfl (hb hby d5_76) rfl ?_
    refine XS.isub X0.here hx rfl (hb hby d5_77) rfl ?_
    show Steps p.tables e below (s₁.setTop (mkF m 78 #[.val (.int (2 : Int32)), .val (.int (29 : Int32))] [(.int (28 : Int32))])) _
    exact retI X0 hx Bd.returns (hb hby d5_78) hr
  · show Qrmz8 Z  h0 n0 _ s₁.heap _
    exact ⟨_, rfl, rfl, N0, e0⟩
theorem pd_0 : parseMethodDescriptor "(I)I" = some ⟨[.int], some .int⟩ := by decide +kernel
theorem d4_0 : decode jdk_35_method_48_code 0 = .ok (.lload_n 0, 1) := by decide +kernel
theorem d4_1 : decode jdk_35_method_48_code 1 = .ok (.bipush 32, 2) := by decide +kernel
theorem d4_3 : decode jdk_35_method_48_code 3 = .ok (.lushr, 1) := by decide +kernel
theorem d4_4 : decode jdk_35_method_48_code 4 = .ok (.l2i, 1) := by decide +kernel
theorem d4_5 : decode jdk_35_method_48_code 5 = .ok (.istore_n 2, 1) := by decide +kernel
theorem d4_6 : decode jdk_35_method_48_code 6 = .ok (.iload_n 2, 1) := by decide +kernel
theorem d4_7 : decode jdk_35_method_48_code 7 = .ok (.ifCond .ne 14, 3) := by decide +kernel
theorem d4_10 : decode jdk_35_method_48_code 10 = .ok (.bipush 32, 2) := by decide +kernel
theorem d4_12 : decode jdk_35_method_48_code 12 = .ok (.lload_n 0, 1) := by decide +kernel
theorem d4_13 : decode jdk_35_method_48_code 13 = .ok (.l2i, 1) := by decide +kernel
theorem d4_14 : decode jdk_35_method_48_code 14 = .ok (.invokestatic 308, 3) := by decide +kernel
theorem d4_17 : decode jdk_35_method_48_code 17 = .ok (.iadd, 1) := by decide +kernel
theorem d4_18 : decode jdk_35_method_48_code 18 = .ok (.goto 7, 3) := by decide +kernel
theorem d4_25 : decode jdk_35_method_48_code 25 = .ok (.ireturn, 1) := by decide +kernel
theorem pn_4 : plainName "java/lang/Long" = true := by first | (simp [plainName, overriddenIn]; done) | decide +kernel
theorem ef_rmZ4 (m : MethodId)  : entryFrame m #[(.long (4 : Int64))] 3 = mkF m 0 #[.val (.long (4 : Int64)), .second, .unset] [] := by first | (simp [entryFrame, mkF, argsToLocals, Value.category]; done) | rfl
def QrmZ4 (Z : State)  (h0 : Heap) (n0 : Nat) (v : Option Value) (h : Heap) (L : List Loc) : Prop := ∃ z : Int32, z = ((61 : Int32)) ∧ v = some (.int z) ∧ Fr n0 L ∧ h = h0
set_option maxRecDepth 65536 in
set_option maxHeartbeats 40000000 in
theorem rmZ4 (l : Launch) (Z : State) (a0 : Array Value) (hw : ∀ d ∈ tables_1, d.before a0 Z = true) (ws : List Jvm.Cond)  (h0 : Heap) (n0 : Nat) (Z0 : n0 ≤ h0.size) :
    MetFree l (⟨"java/lang/Long", "numberOfLeadingZeros", "(J)I"⟩ : MethodName) (head1 (Jvm.Cond.code (⟨"java/lang/Long", "numberOfLeadingZeros", "(J)I"⟩ : MethodName) jdk_35_method_48_code 3 (some .int) :: ws) ({ frames := 1, cells := 0, slots := 0, locals := 14 } : Room)) (fun a U => a = #[(.long (4 : Int64))] ∧ Z.Warmed39 U.vm ∧ U.heap = h0) (fun _ _ _ _ _ => True) (fun _ U o U' => ∃ v L, o = .returned v ∧ QrmZ4 Z  h0 n0 v U'.heap L ∧ FrameEnd U o U' L ({ frames := 1, cells := 0, slots := 0, locals := 14 } : Room).cells ({ frames := 1, cells := 0, slots := 0, locals := 14 } : Room).slots) := by
  refine MetFree.of_bodySF (plainFor_of_name pn_4) hisR ?_
  intro p e s m args below meth c s₁ Bd hml0 hP hK
  obtain ⟨rfl, hZ, hh⟩ := hP
  have hx := Bd.exec
  have hby := Bd.bytes
  have hml : c.maxLocals = 3 := hml0
  have hown : s.vm.findClass "java/lang/Long" = some m.cls := findClass_of_methodNamed Bd.named
  have hnm := (name_of_methodNamed Bd.named Bd.method).1
  have X0 : Stand p l e ({ frames := 1, cells := 0, slots := 0, locals := 14 } : Room) s m #[(.long (4 : Int64))] below meth c s₁ [] 0 0 := Stand.of_body Bd
  have e0 : s₁.heap = h0 := by rw [← hh, Bd.state]; rfl
  have N0 := Fr.nil n0
  have pre0 : ∀ t, Steps p.tables e below (s₁.setTop (mkF m 0 #[.val (.long (4 : Int64)), .second, .unset] [])) t → Steps p.tables e below (s₁.setTop (entryFrame m #[(.long (4 : Int64))] 3)) t := fun t k => castTop (ef_rmZ4 m ) k
  obtain ⟨_, _, ⟨T1, Lq1, kq1, nq1⟩, -, X1, ⟨Lc1, hQ1, lq1, yq1, zq1⟩, st1⟩ := Jvm.LawKit.callS X0 hx (y := (⟨"java/lang/Integer", "numberOfLeadingZeros", "(I)I"⟩ : MethodName)) hown (mvT hZ (hw _ (own_w 20 rfl))) (mvT hZ (hw _ (own_w 21 rfl))) (mvT hZ (hw _ (own_w 22 rfl))) (mvT hZ (hw _ (own_w 23 rfl))) (by decide) (backOf (W := 1) (rmz4 l Z a0 hw []   h0 n0 Z0 ) hZ (hw _ (own_w 23 rfl)) (hw _ (own_w 22 rfl)) (by decide) (by decide)) (g := (mkF m 14 #[.val (.long (4 : Int64)), .second, .val (.int (0 : Int32))] [(.int (4 : Int32)), (.int (32 : Int32))])) rfl (by rw [hml]; rfl) (argsL := [(.int (4 : Int32))]) (rest := [(.int (32 : Int32))]) (lenOf pd_0 rfl) rfl (by show 2 * 0 + _ ≤ _; exact Nat.le_of_eq rfl) (hb hby d4_14) (fun _ _ => ⟨rfl, e0, (by decide : 0 + 0 ≤ _), (by decide : 0 + 0 ≤ _)⟩)
  dsimp only [Pt.U, Pt.locs, Pt.cells, Pt.slots] at X1 lq1 yq1 zq1 st1 hQ1
  subst lq1 yq1 zq1
  obtain ⟨r1, hr1, rfl, N1q, e1⟩ := hQ1
  have N1 := Fr.app N0 N1q
  subst hr1
  obtain ⟨fs, hr, hrun, hended, hW, hsame⟩ := X1.leave (v := some (.int (61 : Int32))) (fun h => by rw [Bd.returns] at h; cases h) (BodyLoose.notSynchronized Bd)
  refine ⟨_, _, pre0 _ ?_, hrun, hended, _, _, rfl, ?_, ⟨_, rfl⟩, hW, hsame.mono (by decide) (by decide)⟩
  · show Steps p.tables e below (s₁.setTop (mkF m 0 #[.val (.long (4 : Int64)), .second, .unset] [])) _
    refine XS.lloadN X0.here hx rfl (hb hby d4_0) rfl ?_
    refine XS.bipush X0.here hx rfl (hb hby d4_1) ?_
    refine XS.lushr X0.here hx rfl (hb hby d4_3) rfl ?_
    refine XS.l2i X0.here hx rfl (hb hby d4_4) rfl ?_
    refine XS.istoreN X0.here hx rfl (hb hby d4_5) rfl (l' := #[.val (.long (4 : Int64)), .second, .val (.int (0 : Int32))]) rfl ?_
    refine XS.iloadN X0.here hx rfl (hb hby d4_6) rfl ?_
    refine XS.ifNo X0.here hx rfl (hb hby d4_7) rfl ((if0 _ _).trans (teq (by decide)).2) ?_
    refine XS.bipush X0.here hx rfl (hb hby d4_10) ?_
    refine XS.lloadN X0.here hx rfl (hb hby d4_12) rfl ?_
    refine XS.l2i X0.here hx rfl (hb hby d4_13) rfl ?_
    refine st1 _ ?_
    refine XS.iadd X1.here hx rfl (hb hby d4_17) rfl ?_
    refine XS.goto X1.here hx rfl (pc0 := 18) (pc' := 25) rfl (hb hby d4_18) (by decide) (by decide) ?_
    show Steps p.tables e below (T1.setTop (mkF m 25 #[.val (.long (4 : Int64)), .second, .val (.int (0 : Int32))] [(.int (61 : Int32))])) _
    exact retI X1 hx Bd.returns (hb hby d4_25) hr
  · show QrmZ4 Z  h0 n0 _ T1.heap _
    exact ⟨_, rfl, rfl, N1, e1⟩
theorem ef_rmZ8 (m : MethodId)  : entryFrame m #[(.long (8 : Int64))] 3 = mkF m 0 #[.val (.long (8 : Int64)), .second, .unset] [] := by first | (simp [entryFrame, mkF, argsToLocals, Value.category]; done) | rfl
def QrmZ8 (Z : State)  (h0 : Heap) (n0 : Nat) (v : Option Value) (h : Heap) (L : List Loc) : Prop := ∃ z : Int32, z = ((60 : Int32)) ∧ v = some (.int z) ∧ Fr n0 L ∧ h = h0
set_option maxRecDepth 65536 in
set_option maxHeartbeats 40000000 in
theorem rmZ8 (l : Launch) (Z : State) (a0 : Array Value) (hw : ∀ d ∈ tables_1, d.before a0 Z = true) (ws : List Jvm.Cond)  (h0 : Heap) (n0 : Nat) (Z0 : n0 ≤ h0.size) :
    MetFree l (⟨"java/lang/Long", "numberOfLeadingZeros", "(J)I"⟩ : MethodName) (head1 (Jvm.Cond.code (⟨"java/lang/Long", "numberOfLeadingZeros", "(J)I"⟩ : MethodName) jdk_35_method_48_code 3 (some .int) :: ws) ({ frames := 1, cells := 0, slots := 0, locals := 14 } : Room)) (fun a U => a = #[(.long (8 : Int64))] ∧ Z.Warmed39 U.vm ∧ U.heap = h0) (fun _ _ _ _ _ => True) (fun _ U o U' => ∃ v L, o = .returned v ∧ QrmZ8 Z  h0 n0 v U'.heap L ∧ FrameEnd U o U' L ({ frames := 1, cells := 0, slots := 0, locals := 14 } : Room).cells ({ frames := 1, cells := 0, slots := 0, locals := 14 } : Room).slots) := by
  refine MetFree.of_bodySF (plainFor_of_name pn_4) hisR ?_
  intro p e s m args below meth c s₁ Bd hml0 hP hK
  obtain ⟨rfl, hZ, hh⟩ := hP
  have hx := Bd.exec
  have hby := Bd.bytes
  have hml : c.maxLocals = 3 := hml0
  have hown : s.vm.findClass "java/lang/Long" = some m.cls := findClass_of_methodNamed Bd.named
  have hnm := (name_of_methodNamed Bd.named Bd.method).1
  have X0 : Stand p l e ({ frames := 1, cells := 0, slots := 0, locals := 14 } : Room) s m #[(.long (8 : Int64))] below meth c s₁ [] 0 0 := Stand.of_body Bd
  have e0 : s₁.heap = h0 := by rw [← hh, Bd.state]; rfl
  have N0 := Fr.nil n0
  have pre0 : ∀ t, Steps p.tables e below (s₁.setTop (mkF m 0 #[.val (.long (8 : Int64)), .second, .unset] [])) t → Steps p.tables e below (s₁.setTop (entryFrame m #[(.long (8 : Int64))] 3)) t := fun t k => castTop (ef_rmZ8 m ) k
  obtain ⟨_, _, ⟨T1, Lq1, kq1, nq1⟩, -, X1, ⟨Lc1, hQ1, lq1, yq1, zq1⟩, st1⟩ := Jvm.LawKit.callS X0 hx (y := (⟨"java/lang/Integer", "numberOfLeadingZeros", "(I)I"⟩ : MethodName)) hown (mvT hZ (hw _ (own_w 20 rfl))) (mvT hZ (hw _ (own_w 21 rfl))) (mvT hZ (hw _ (own_w 22 rfl))) (mvT hZ (hw _ (own_w 23 rfl))) (by decide) (backOf (W := 1) (rmz8 l Z a0 hw []   h0 n0 Z0 ) hZ (hw _ (own_w 23 rfl)) (hw _ (own_w 22 rfl)) (by decide) (by decide)) (g := (mkF m 14 #[.val (.long (8 : Int64)), .second, .val (.int (0 : Int32))] [(.int (8 : Int32)), (.int (32 : Int32))])) rfl (by rw [hml]; rfl) (argsL := [(.int (8 : Int32))]) (rest := [(.int (32 : Int32))]) (lenOf pd_0 rfl) rfl (by show 2 * 0 + _ ≤ _; exact Nat.le_of_eq rfl) (hb hby d4_14) (fun _ _ => ⟨rfl, e0, (by decide : 0 + 0 ≤ _), (by decide : 0 + 0 ≤ _)⟩)
  dsimp only [Pt.U, Pt.locs, Pt.cells, Pt.slots] at X1 lq1 yq1 zq1 st1 hQ1
  subst lq1 yq1 zq1
  obtain ⟨r1, hr1, rfl, N1q, e1⟩ := hQ1
  have N1 := Fr.app N0 N1q
  subst hr1
  obtain ⟨fs, hr, hrun, hended, hW, hsame⟩ := X1.leave (v := some (.int (60 : Int32))) (fun h => by rw [Bd.returns] at h; cases h) (BodyLoose.notSynchronized Bd)
  refine ⟨_, _, pre0 _ ?_, hrun, hended, _, _, rfl, ?_, ⟨_, rfl⟩, hW, hsame.mono (by decide) (by decide)⟩
  · show Steps p.tables e below (s₁.setTop (mkF m 0 #[.val (.long (8 : Int64)), .second, .unset] [])) _
    refine XS.lloadN X0.here hx rfl (hb hby d4_0) rfl ?_
    refine XS.bipush X0.here hx rfl (hb hby d4_1) ?_
    refine XS.lushr X0.here hx rfl (hb hby d4_3) rfl ?_
    refine XS.l2i X0.here hx rfl (hb hby d4_4) rfl ?_
    refine XS.istoreN X0.here hx rfl (hb hby d4_5) rfl (l' := #[.val (.long (8 : Int64)), .second, .val (.int (0 : Int32))]) rfl ?_
    refine XS.iloadN X0.here hx rfl (hb hby d4_6) rfl ?_
    refine XS.ifNo X0.here hx rfl (hb hby d4_7) rfl ((if0 _ _).trans (teq (by decide)).2) ?_
    refine XS.bipush X0.here hx rfl (hb hby d4_10) ?_
    refine XS.lloadN X0.here hx rfl (hb hby d4_12) rfl ?_
    refine XS.l2i X0.here hx rfl (hb hby d4_13) rfl ?_
    refine st1 _ ?_
    refine XS.iadd X1.here hx rfl (hb hby d4_17) rfl ?_
    refine XS.goto X1.here hx rfl (pc0 := 18) (pc' := 25) rfl (hb hby d4_18) (by decide) (by decide) ?_
    show Steps p.tables e below (T1.setTop (mkF m 25 #[.val (.long (8 : Int64)), .second, .val (.int (0 : Int32))] [(.int (60 : Int32))])) _
    exact retI X1 hx Bd.returns (hb hby d4_25) hr
  · show QrmZ8 Z  h0 n0 _ T1.heap _
    exact ⟨_, rfl, rfl, N1, e1⟩
theorem pd_1 : parseMethodDescriptor "(J)I" = some ⟨[.long], some .int⟩ := by decide +kernel
theorem d2_0 : decode prog_19_method_2_code 0 = .ok (.aload_n 0, 1) := by decide +kernel
theorem d2_1 : decode prog_19_method_2_code 1 = .ok (.invokespecial 9, 3) := by decide +kernel
theorem d2_4 : decode prog_19_method_2_code 4 = .ok (.aload_n 0, 1) := by decide +kernel
theorem d2_5 : decode prog_19_method_2_code 5 = .ok (.iconst 2, 1) := by decide +kernel
theorem d2_6 : decode prog_19_method_2_code 6 = .ok (.iload_n 1, 1) := by decide +kernel
theorem d2_7 : decode prog_19_method_2_code 7 = .ok (.imul, 1) := by decide +kernel
theorem d2_8 : decode prog_19_method_2_code 8 = .ok (.newarray .long, 2) := by decide +kernel
theorem d2_10 : decode prog_19_method_2_code 10 = .ok (.putfield 14, 3) := by decide +kernel
theorem d2_13 : decode prog_19_method_2_code 13 = .ok (.iconst 0, 1) := by decide +kernel
theorem d2_14 : decode prog_19_method_2_code 14 = .ok (.istore_n 2, 1) := by decide +kernel
theorem d2_15 : decode prog_19_method_2_code 15 = .ok (.iload_n 2, 1) := by decide +kernel
theorem d2_16 : decode prog_19_method_2_code 16 = .ok (.aload_n 0, 1) := by decide +kernel
theorem d2_17 : decode prog_19_method_2_code 17 = .ok (.getfield 14, 3) := by decide +kernel
theorem d2_20 : decode prog_19_method_2_code 20 = .ok (.arraylength, 1) := by decide +kernel
theorem d2_21 : decode prog_19_method_2_code 21 = .ok (.if_icmp .ge 18, 3) := by decide +kernel
theorem d2_24 : decode prog_19_method_2_code 24 = .ok (.aload_n 0, 1) := by decide +kernel
theorem d2_25 : decode prog_19_method_2_code 25 = .ok (.getfield 14, 3) := by decide +kernel
theorem d2_28 : decode prog_19_method_2_code 28 = .ok (.iload_n 2, 1) := by decide +kernel
theorem d2_29 : decode prog_19_method_2_code 29 = .ok (.ldc2_w 18, 3) := by decide +kernel
theorem d2_32 : decode prog_19_method_2_code 32 = .ok (.lastore, 1) := by decide +kernel
theorem d2_33 : decode prog_19_method_2_code 33 = .ok (.iinc 2 2, 3) := by decide +kernel
theorem d2_36 : decode prog_19_method_2_code 36 = .ok (.goto (-21), 3) := by decide +kernel
theorem d2_39 : decode prog_19_method_2_code 39 = .ok (.aload_n 0, 1) := by decide +kernel
theorem d2_40 : decode prog_19_method_2_code 40 = .ok (.iload_n 1, 1) := by decide +kernel
theorem d2_41 : decode prog_19_method_2_code 41 = .ok (.i2l, 1) := by decide +kernel
theorem d2_42 : decode prog_19_method_2_code 42 = .ok (.invokestatic 20, 3) := by decide +kernel
theorem d2_45 : decode prog_19_method_2_code 45 = .ok (.iconst 1, 1) := by decide +kernel
theorem d2_46 : decode prog_19_method_2_code 46 = .ok (.iadd, 1) := by decide +kernel
theorem d2_47 : decode prog_19_method_2_code 47 = .ok (.putfield 24, 3) := by decide +kernel
theorem d2_50 : decode prog_19_method_2_code 50 = .ok (.return_, 1) := by decide +kernel
theorem pn_2 : plainName "com/example/pricewright/pricewright/core/LongSumTable" = true := by first | (simp [plainName, overriddenIn]; done) | decide +kernel
theorem ef_rmI4 (m : MethodId) (a1 : Addr) : entryFrame m #[(.ref a1), (.int (4 : Int32))] 3 = mkF m 0 #[.val (.ref a1), .val (.int (4 : Int32)), .unset] [] := by first | (simp [entryFrame, mkF, argsToLocals, Value.category]; done) | rfl
def QrmI4 (Z : State) (a1 : Addr) (h0 : Heap) (n0 : Nat) (v : Option Value) (h : Heap) (L : List Loc) : Prop := v = none ∧ Fr n0 L ∧ Keep h0 h [a1] ∧ ∃ (sa : Addr) (sk : ClassId), n0 ≤ sa ∧ h0.size ≤ sa ∧ Exa Z h a1 "com/example/pricewright/pricewright/core/LongSumTable" ∧ Fld Z h a1 "com/example/pricewright/pricewright/core/LongSumTable" "slots" "[J" (.ref sa) ∧ Fld Z h a1 "com/example/pricewright/pricewright/core/LongSumTable" "shift" "I" (.int (62 : Int32)) ∧ Fld Z h a1 "com/example/pricewright/pricewright/core/LongSumTable" "size" "I" (.int (0 : Int32)) ∧ Fld Z h a1 "com/example/pricewright/pricewright/core/LongSumTable" "sorted" "[J" .null ∧ Arv Z h sa sk .long (8 : Int32) (own_new4.map Value.long) (.long (0 : Int64))
set_option maxRecDepth 65536 in
set_option maxHeartbeats 40000000 in
theorem rmI4 (l : Launch) (Z : State) (a0 : Array Value) (hw : ∀ d ∈ tables_1, d.before a0 Z = true) (ws : List Jvm.Cond) (a1 : Addr) (h0 : Heap) (n0 : Nat) (Z0 : n0 ≤ h0.size) (E : Exa Z h0 a1 "com/example/pricewright/pricewright/core/LongSumTable") (F_slots : Fld Z h0 a1 "com/example/pricewright/pricewright/core/LongSumTable" "slots" "[J" .null) (F_shift : Fld Z h0 a1 "com/example/pricewright/pricewright/core/LongSumTable" "shift" "I" (.int (0 : Int32))) (F_size : Fld Z h0 a1 "com/example/pricewright/pricewright/core/LongSumTable" "size" "I" (.int (0 : Int32))) (F_sorted : Fld Z h0 a1 "com/example/pricewright/pricewright/core/LongSumTable" "sorted" "[J" .null) (ga : n0 ≤ a1) :
    MetFree l (⟨"com/example/pricewright/pricewright/core/LongSumTable", "<init>", "(I)V"⟩ : MethodName) (head1 (Jvm.Cond.code (⟨"com/example/pricewright/pricewright/core/LongSumTable", "<init>", "(I)V"⟩ : MethodName) prog_19_method_2_code 3 none :: ws) ({ frames := 2, cells := 1, slots := 8, locals := 29 } : Room)) (fun a U => a = #[(.ref a1), (.int (4 : Int32))] ∧ Z.Warmed39 U.vm ∧ U.heap = h0) (fun _ _ _ _ _ => True) (fun _ U o U' => ∃ v L, o = .returned v ∧ QrmI4 Z a1 h0 n0 v U'.heap L ∧ FrameEnd U o U' L ({ frames := 2, cells := 1, slots := 8, locals := 29 } : Room).cells ({ frames := 2, cells := 1, slots := 8, locals := 29 } : Room).slots) := by
  refine MetFree.of_bodySF (plainFor_of_name pn_2) hisR ?_
  intro p e s m args below meth c s₁ Bd hml0 hP hK
  obtain ⟨rfl, hZ, hh⟩ := hP
  have hx := Bd.exec
  have hby := Bd.bytes
  have hml : c.maxLocals = 3 := hml0
  have hown : s.vm.findClass "com/example/pricewright/pricewright/core/LongSumTable" = some m.cls := findClass_of_methodNamed Bd.named
  have hnm := (name_of_methodNamed Bd.named Bd.method).1
  have X0 : Stand p l e ({ frames := 2, cells := 1, slots := 8, locals := 29 } : Room) s m #[(.ref a1), (.int (4 : Int32))] below meth c s₁ [] 0 0 := Stand.of_body Bd
  have e0 : s₁.heap = h0 := by rw [← hh, Bd.state]; rfl
  have N0 := Fr.nil n0
  have pre0 : ∀ t, Steps p.tables e below (s₁.setTop (mkF m 0 #[.val (.ref a1), .val (.int (4 : Int32)), .unset] [])) t → Steps p.tables e below (s₁.setTop (entryFrame m #[(.ref a1), (.int (4 : Int32))] 3)) t := fun t k => castTop (ef_rmI4 m a1) k
  obtain ⟨T1, X1, e1, st1⟩ := initO X0 hx hZ hown (hw _ (own_w 9 rfl)) (hw _ (own_w 10 rfl)) (hw _ (own_w 11 rfl)) e0 (g := (mkF m 1 #[.val (.ref a1), .val (.int (4 : Int32)), .unset] [(.ref a1)])) rfl (by rw [hml]; rfl) rfl (hb hby d2_1) (by decide) (W := 0) (by show 2 * 0 + _ ≤ _; exact Nat.le_of_eq rfl) (by decide)
  obtain ⟨T2, h2, ck2, X2, e2, E2, A2, st2⟩ := newP X1 hx hZ (hw _ (own_w 12 rfl)) e1 (g := (mkF m 8 #[.val (.ref a1), .val (.int (4 : Int32)), .unset] [(.int (8 : Int32)), (.ref a1)])) rfl (hb hby d2_8) rfl (by decide) (cap := 8) (by decide) (by decide) (by decide) (by decide)
  obtain ⟨b2o, g2⟩ : ∃ z, z = h0.size := ⟨_, rfl⟩
  have b2 : n0 ≤ b2o := Nat.le_trans Z0 (Nat.le_of_eq g2.symm)
  have bk2 : h0.size ≤ b2o := Nat.le_trans (Keep.refl h0 [a1]).1 (Nat.le_of_eq g2.symm)
  have ne3 : a1 ≠ b2o := Nat.ne_of_lt (Nat.lt_of_lt_of_le E.lt (Nat.le_of_eq g2.symm))
  rw [← g2] at A2 st2
  have Z2 : n0 ≤ h2.size := Nat.le_trans Z0 E2.1
  have K2 : Keep h0 h2 [a1] := (Keep.refl h0 [a1]).ext E2
  have V2 : Arv Z h2 b2o ck2 .long (8 : Int32) [(.long (0 : Int64)), (.long (0 : Int64)), (.long (0 : Int64)), (.long (0 : Int64)), (.long (0 : Int64)), (.long (0 : Int64)), (.long (0 : Int64)), (.long (0 : Int64))] (.long (0 : Int64)) := (Arv.new A2 (by decide)).pad (pad_rep [] (.long (0 : Int64)) 8)
  have f4 := (E.ext E2)
  have f5 := (F_slots.ext E2)
  obtain ⟨T6, h6, X6, e6, W6, st6⟩ := putF X2 hx hZ hown (host := "") (Or.inl (hw _ (own_w 13 rfl))) Via.refl e2 f5 f4 (Or.inl (hw _ (own_w 14 rfl))) (hw _ (own_w 1 rfl)) (ty := (.array .long)) (by decide) rfl rfl (g := (mkF m 10 #[.val (.ref a1), .val (.int (4 : Int32)), .unset] [(.ref b2o), (.ref a1)])) rfl rfl (hb hby d2_10)
  have N6 := Fr.snoc X6 N0 ga
  have Z6 : n0 ≤ h6.size := by rw [W6.size]; exact Z2
  have K6 : Keep h0 h6 [a1] := K2.wr W6 (Or.inl (own_w 0 rfl))
  have Fw6 := f5.same W6
  obtain ⟨T7, X7, e7, st7⟩ := getF X6 hx hZ hown (host := "") (Or.inl (hw _ (own_w 13 rfl))) Via.refl e6 Fw6 (g := (mkF m 17 #[.val (.ref a1), .val (.int (4 : Int32)), .val (.int (0 : Int32))] [(.ref a1), (.int (0 : Int32))])) rfl rfl (hb hby d2_17)
  have f8 := (V2.other W6 (Ne.symm ne3))
  obtain ⟨cl9, Ar9, qk9, Sz9, Nn9, Hh9, Gg9⟩ := id (f8)
  obtain ⟨T10, X10, e10, st10⟩ := getF X7 hx hZ hown (host := "") (Or.inl (hw _ (own_w 13 rfl))) Via.refl e7 Fw6 (g := (mkF m 25 #[.val (.ref a1), .val (.int (4 : Int32)), .val (.int (0 : Int32))] [(.ref a1)])) rfl rfl (hb hby d2_25)
  obtain ⟨cl11, Ar11, qk11, Sz11, Nn11, Hh11, Gg11⟩ := id (f8)
  have hin12 : ¬ ((0 : Int32) < 0 ∨ cl11.slots.size ≤ ((0 : Int32)).toNatClampNeg) := inb_of Sz11 ⟨by decide, by decide⟩
  obtain ⟨T12, h12, X12, e12, W12, st12⟩ := stJ X10 hx hZ e10 Ar11 (j := (0 : Int32)) hin12  (g := (mkF m 32 #[.val (.ref a1), .val (.int (4 : Int32)), .val (.int (0 : Int32))] [(.long (-9223372036854775808 : Int64)), (.int (0 : Int32)), (.ref b2o)])) rfl rfl (hb hby d2_32)
  have N12 := Fr.snoc X12 N6 b2
  have Z12 : n0 ≤ h12.size := by rw [W12.size]; exact Z6
  have K12 : Keep h0 h12 [a1] := K6.wr W12 (Or.inr bk2)
  have V12 : Arv Z h12 b2o ck2 .long (8 : Int32) [(.long (-9223372036854775808 : Int64)), (.long (0 : Int64)), (.long (0 : Int64)), (.long (0 : Int64)), (.long (0 : Int64)), (.long (0 : Int64)), (.long (0 : Int64)), (.long (0 : Int64))] (.long (0 : Int64)) := Arv.set Ar11 qk11 Sz11 Nn11 Hh11 Gg11 rfl W12 0 rfl (Nat.le_of_ble_eq_true rfl)
  have f13 := (Fw6.other W12 (Or.inl ne3))
  obtain ⟨T14, X14, e14, st14⟩ := getF X12 hx hZ hown (host := "") (Or.inl (hw _ (own_w 13 rfl))) Via.refl e12 f13 (g := (mkF m 17 #[.val (.ref a1), .val (.int (4 : Int32)), .val (.int (2 : Int32))] [(.ref a1), (.int (2 : Int32))])) rfl rfl (hb hby d2_17)
  obtain ⟨cl15, Ar15, qk15, Sz15, Nn15, Hh15, Gg15⟩ := id (V12)
  obtain ⟨T16, X16, e16, st16⟩ := getF X14 hx hZ hown (host := "") (Or.inl (hw _ (own_w 13 rfl))) Via.refl e14 f13 (g := (mkF m 25 #[.val (.ref a1), .val (.int (4 : Int32)), .val (.int (2 : Int32))] [(.ref a1)])) rfl rfl (hb hby d2_25)
  obtain ⟨cl17, Ar17, qk17, Sz17, Nn17, Hh17, Gg17⟩ := id (V12)
  have hin18 : ¬ ((2 : Int32) < 0 ∨ cl17.slots.size ≤ ((2 : Int32)).toNatClampNeg) := inb_of Sz17 ⟨by decide, by decide⟩
  obtain ⟨T18, h18, X18, e18, W18, st18⟩ := stJ X16 hx hZ e16 Ar17 (j := (2 : Int32)) hin18  (g := (mkF m 32 #[.val (.ref a1), .val (.int (4 : Int32)), .val (.int (2 : Int32))] [(.long (-9223372036854775808 : Int64)), (.int (2 : Int32)), (.ref b2o)])) rfl rfl (hb hby d2_32)
  have N18 := Fr.snoc X18 N12 b2
  have Z18 : n0 ≤ h18.size := by rw [W18.size]; exact Z12
  have K18 : Keep h0 h18 [a1] := K12.wr W18 (Or.inr bk2)
  have V18 : Arv Z h18 b2o ck2 .long (8 : Int32) [(.long (-9223372036854775808 : Int64)), (.long (0 : Int64)), (.long (-9223372036854775808 : Int64)), (.long (0 : Int64)), (.long (0 : Int64)), (.long (0 : Int64)), (.long (0 : Int64)), (.long (0 : Int64))] (.long (0 : Int64)) := Arv.set Ar17 qk17 Sz17 Nn17 Hh17 Gg17 rfl W18 2 rfl (Nat.le_of_ble_eq_true rfl)
  have f19 := (f13.other W18 (Or.inl ne3))
  obtain ⟨T20, X20, e20, st20⟩ := getF X18 hx hZ hown (host := "") (Or.inl (hw _ (own_w 13 rfl))) Via.refl e18 f19 (g := (mkF m 17 #[.val (.ref a1), .val (.int (4 : Int32)), .val (.int (4 : Int32))] [(.ref a1), (.int (4 : Int32))])) rfl rfl (hb hby d2_17)
  obtain ⟨cl21, Ar21, qk21, Sz21, Nn21, Hh21, Gg21⟩ := id (V18)
  obtain ⟨T22, X22, e22, st22⟩ := getF X20 hx hZ hown (host := "") (Or.inl (hw _ (own_w 13 rfl))) Via.refl e20 f19 (g := (mkF m 25 #[.val (.ref a1), .val (.int (4 : Int32)), .val (.int (4 : Int32))] [(.ref a1)])) rfl rfl (hb hby d2_25)
  obtain ⟨cl23, Ar23, qk23, Sz23, Nn23, Hh23, Gg23⟩ := id (V18)
  have hin24 : ¬ ((4 : Int32) < 0 ∨ cl23.slots.size ≤ ((4 : Int32)).toNatClampNeg) := inb_of Sz23 ⟨by decide, by decide⟩
  obtain ⟨T24, h24, X24, e24, W24, st24⟩ := stJ X22 hx hZ e22 Ar23 (j := (4 : Int32)) hin24  (g := (mkF m 32 #[.val (.ref a1), .val (.int (4 : Int32)), .val (.int (4 : Int32))] [(.long (-9223372036854775808 : Int64)), (.int (4 : Int32)), (.ref b2o)])) rfl rfl (hb hby d2_32)
  have N24 := Fr.snoc X24 N18 b2
  have Z24 : n0 ≤ h24.size := by rw [W24.size]; exact Z18
  have K24 : Keep h0 h24 [a1] := K18.wr W24 (Or.inr bk2)
  have V24 : Arv Z h24 b2o ck2 .long (8 : Int32) [(.long (-9223372036854775808 : Int64)), (.long (0 : Int64)), (.long (-9223372036854775808 : Int64)), (.long (0 : Int64)), (.long (-9223372036854775808 : Int64)), (.long (0 : Int64)), (.long (0 : Int64)), (.long (0 : Int64))] (.long (0 : Int64)) := Arv.set Ar23 qk23 Sz23 Nn23 Hh23 Gg23 rfl W24 4 rfl (Nat.le_of_ble_eq_true rfl)
  have f25 := (f19.other W24 (Or.inl ne3))
  obtain ⟨T26, X26, e26, st26⟩ := getF X24 hx hZ hown (host := "") (Or.inl (hw _ (own_w 13 rfl))) Via.refl e24 f25 (g := (mkF m 17 #[.val (.ref a1), .val (.int (4 : Int32)), .val (.int (6 : Int32))] [(.ref a1), (.int (6 : Int32))])) rfl rfl (hb hby d2_17)
  obtain ⟨cl27, Ar27, qk27, Sz27, Nn27, Hh27, Gg27⟩ := id (V24)
  obtain ⟨T28, X28, e28, st28⟩ := getF X26 hx hZ hown (host := "") (Or.inl (hw _ (own_w 13 rfl))) Via.refl e26 f25 (g := (mkF m 25 #[.val (.ref a1), .val (.int (4 : Int32)), .val (.int (6 : Int32))] [(.ref a1)])) rfl rfl (hb hby d2_25)
  obtain ⟨cl29, Ar29, qk29, Sz29, Nn29, Hh29, Gg29⟩ := id (V24)
  have hin30 : ¬ ((6 : Int32) < 0 ∨ cl29.slots.size ≤ ((6 : Int32)).toNatClampNeg) := inb_of Sz29 ⟨by decide, by decide⟩
  obtain ⟨T30, h30, X30, e30, W30, st30⟩ := stJ X28 hx hZ e28 Ar29 (j := (6 : Int32)) hin30  (g := (mkF m 32 #[.val (.ref a1), .val (.int (4 : Int32)), .val (.int (6 : Int32))] [(.long (-9223372036854775808 : Int64)), (.int (6 : Int32)), (.ref b2o)])) rfl rfl (hb hby d2_32)
  have N30 := Fr.snoc X30 N24 b2
  have Z30 : n0 ≤ h30.size := by rw [W30.size]; exact Z24
  have K30 : Keep h0 h30 [a1] := K24.wr W30 (Or.inr bk2)
  have V30 : Arv Z h30 b2o ck2 .long (8 : Int32) [(.long (-9223372036854775808 : Int64)), (.long (0 : Int64)), (.long (-9223372036854775808 : Int64)), (.long (0 : Int64)), (.long (-9223372036854775808 : Int64)), (.long (0 : Int64)), (.long (-9223372036854775808 : Int64)), (.long (0 : Int64))] (.long (0 : Int64)) := Arv.set Ar29 qk29 Sz29 Nn29 Hh29 Gg29 rfl W30 6 rfl (Nat.le_of_ble_eq_true rfl)
  have f31 := (f25.other W30 (Or.inl ne3))
  obtain ⟨T32, X32, e32, st32⟩ := getF X30 hx hZ hown (host := "") (Or.inl (hw _ (own_w 13 rfl))) Via.refl e30 f31 (g := (mkF m 17 #[.val (.ref a1), .val (.int (4 : Int32)), .val (.int (8 : Int32))] [(.ref a1), (.int (8 : Int32))])) rfl rfl (hb hby d2_17)
  obtain ⟨cl33, Ar33, qk33, Sz33, Nn33, Hh33, Gg33⟩ := id (V30)
  obtain ⟨_, _, ⟨T34, Lq34, kq34, nq34⟩, -, X34, ⟨Lc34, hQ34, lq34, yq34, zq34⟩, st34⟩ := Jvm.LawKit.callS X32 hx (y := (⟨"java/lang/Long", "numberOfLeadingZeros", "(J)I"⟩ : MethodName)) hown (mvT hZ (hw _ (own_w 16 rfl))) (mvT hZ (hw _ (own_w 17 rfl))) (mvT hZ (hw _ (own_w 18 rfl))) (mvT hZ (hw _ (own_w 19 rfl))) (by decide) (backOf (W := 1) (rmZ4 l Z a0 hw []   h30 n0 Z30 ) hZ (hw _ (own_w 19 rfl)) (hw _ (own_w 18 rfl)) (by decide) (by decide)) (g := (mkF m 42 #[.val (.ref a1), .val (.int (4 : Int32)), .val (.int (8 : Int32))] [(.long (4 : Int64)), (.ref a1)])) rfl (by rw [hml]; rfl) (argsL := [(.long (4 : Int64))]) (rest := [(.ref a1)]) (lenOf pd_1 rfl) rfl (by show 2 * 0 + _ ≤ _; exact Nat.le_of_eq rfl) (hb hby d2_42) (fun _ _ => ⟨rfl, e32, (by decide : 1 + 0 ≤ _), (by decide : 8 + 0 ≤ _)⟩)
  dsimp only [Pt.U, Pt.locs, Pt.cells, Pt.slots] at X34 lq34 yq34 zq34 st34 hQ34
  subst lq34 yq34 zq34
  obtain ⟨r34, hr34, rfl, N34q, e34⟩ := hQ34
  have N34 := Fr.app N30 N34q
  subst hr34
  have f35 := (((((f4.wr W6).wr W12).wr W18).wr W24).wr W30)
  have f36 := ((((((F_shift.ext E2).other W6 (Or.inr (slot_ne (Or.inl (hw _ (own_w 26 rfl))) (Or.inl (hw _ (own_w 14 rfl))) (by decide) (t := .int) (t' := (.array .long)) (by decide) (by decide)))).other W12 (Or.inl ne3)).other W18 (Or.inl ne3)).other W24 (Or.inl ne3)).other W30 (Or.inl ne3))
  obtain ⟨T37, h37, X37, e37, W37, st37⟩ := putF X34 hx hZ hown (host := "") (Or.inl (hw _ (own_w 25 rfl))) Via.refl e34 f36 f35 (Or.inl (hw _ (own_w 26 rfl))) (hw _ (own_w 1 rfl)) (ty := .int) (by decide) rfl rfl (g := (mkF m 47 #[.val (.ref a1), .val (.int (4 : Int32)), .val (.int (8 : Int32))] [(.int (62 : Int32)), (.ref a1)])) rfl rfl (hb hby d2_47)
  have N37 := Fr.snoc X37 N34 ga
  have Z37 : n0 ≤ h37.size := by rw [W37.size]; exact Z30
  have K37 : Keep h0 h37 [a1] := K30.wr W37 (Or.inl (own_w 0 rfl))
  have Fw37 := f36.same W37
  obtain ⟨fs, hr, hrun, hended, hW, hsame⟩ := X37.leave (v := none) (fun _ => rfl) (BodyLoose.notSynchronized Bd)
  refine ⟨_, _, pre0 _ ?_, hrun, hended, _, _, rfl, ?_, ⟨_, rfl⟩, hW, hsame.mono (by decide) (by decide)⟩
  · show Steps p.tables e below (s₁.setTop (mkF m 0 #[.val (.ref a1), .val (.int (4 : Int32)), .unset] [])) _
    refine XS.aloadN X0.here hx rfl (hb hby d2_0) rfl rfl ?_
    refine st1 _ ?_
    refine XS.aloadN X1.here hx rfl (hb hby d2_4) rfl rfl ?_
    refine XS.iconst X1.here hx rfl (hb hby d2_5) ?_
    refine XS.iloadN X1.here hx rfl (hb hby d2_6) rfl ?_
    refine XS.imul X1.here hx rfl (hb hby d2_7) rfl ?_
    refine st2 _ ?_
    refine st6 _ ?_
    refine XS.iconst X6.here hx rfl (hb hby d2_13) ?_
    refine XS.istoreN X6.here hx rfl (hb hby d2_14) rfl (l' := #[.val (.ref a1), .val (.int (4 : Int32)), .val (.int (0 : Int32))]) rfl ?_
    refine XS.iloadN X6.here hx rfl (hb hby d2_15) rfl ?_
    refine XS.aloadN X6.here hx rfl (hb hby d2_16) rfl rfl ?_
    refine st7 _ ?_
    refine X7.arraylength hx (by rw [e7]; exact Ar9.1) (State.isArrayOf_alike hZ.alike Ar9.2.1) (g := (mkF m 20 #[.val (.ref a1), .val (.int (4 : Int32)), .val (.int (0 : Int32))] [(.ref b2o), (.int (0 : Int32))])) rfl rfl (hb hby d2_20) _ ?_
    rw [len_of Sz9 Nn9]
    show Steps p.tables e below (T7.setTop (mkF m 21 #[.val (.ref a1), .val (.int (4 : Int32)), .val (.int (0 : Int32))] [(.int (8 : Int32)), (.int (0 : Int32))])) _
    refine XS.icmpNo X7.here hx rfl (hb hby d2_21) rfl (tlt (by decide)).2.1 ?_
    refine XS.aloadN X7.here hx rfl (hb hby d2_24) rfl rfl ?_
    refine st10 _ ?_
    refine XS.iloadN X10.here hx rfl (hb hby d2_28) rfl ?_
    refine X10.ldc2Long hx hown (mvT hZ (hw _ (own_w 15 rfl))) (g := (mkF m 29 #[.val (.ref a1), .val (.int (4 : Int32)), .val (.int (0 : Int32))] [(.int (0 : Int32)), (.ref b2o)])) rfl (hb hby d2_29) _ ?_
    refine st12 _ ?_
    refine XS.iinc X12.here hx rfl (hb hby d2_33) rfl (l' := #[.val (.ref a1), .val (.int (4 : Int32)), .val (.int (2 : Int32))]) rfl ?_
    refine XS.goto X12.here hx rfl (pc0 := 36) (pc' := 15) rfl (hb hby d2_36) (by decide) (by decide) ?_
    refine XS.iloadN X12.here hx rfl (hb hby d2_15) rfl ?_
    refine XS.aloadN X12.here hx rfl (hb hby d2_16) rfl rfl ?_
    refine st14 _ ?_
    refine X14.arraylength hx (by rw [e14]; exact Ar15.1) (State.isArrayOf_alike hZ.alike Ar15.2.1) (g := (mkF m 20 #[.val (.ref a1), .val (.int (4 : Int32)), .val (.int (2 : Int32))] [(.ref b2o), (.int (2 : Int32))])) rfl rfl (hb hby d2_20) _ ?_
    rw [len_of Sz15 Nn15]
    show Steps p.tables e below (T14.setTop (mkF m 21 #[.val (.ref a1), .val (.int (4 : Int32)), .val (.int (2 : Int32))] [(.int (8 : Int32)), (.int (2 : Int32))])) _
    refine XS.icmpNo X14.here hx rfl (hb hby d2_21) rfl (tlt (by decide)).2.1 ?_
    refine XS.aloadN X14.here hx rfl (hb hby d2_24) rfl rfl ?_
    refine st16 _ ?_
    refine XS.iloadN X16.here hx rfl (hb hby d2_28) rfl ?_
    refine X16.ldc2Long hx hown (mvT hZ (hw _ (own_w 15 rfl))) (g := (mkF m 29 #[.val (.ref a1), .val (.int (4 : Int32)), .val (.int (2 : Int32))] [(.int (2 : Int32)), (.ref b2o)])) rfl (hb hby d2_29) _ ?_
    refine st18 _ ?_
    refine XS.iinc X18.here hx rfl (hb hby d2_33) rfl (l' := #[.val (.ref a1), .val (.int (4 : Int32)), .val (.int (4 : Int32))]) rfl ?_
    refine XS.goto X18.here hx rfl (pc0 := 36) (pc' := 15) rfl (hb hby d2_36) (by decide) (by decide) ?_
    refine XS.iloadN X18.here hx rfl (hb hby d2_15) rfl ?_
    refine XS.aloadN X18.here hx rfl (hb hby d2_16) rfl rfl ?_
    refine st20 _ ?_
    refine X20.arraylength hx (by rw [e20]; exact Ar21.1) (State.isArrayOf_alike hZ.alike Ar21.2.1) (g := (mkF m 20 #[.val (.ref a1), .val (.int (4 : Int32)), .val (.int (4 : Int32))] [(.ref b2o), (.int (4 : Int32))])) rfl rfl (hb hby d2_20) _ ?_
    rw [len_of Sz21 Nn21]
    show Steps p.tables e below (T20.setTop (mkF m 21 #[.val (.ref a1), .val (.int (4 : Int32)), .val (.int (4 : Int32))] [(.int (8 : Int32)), (.int (4 : Int32))])) _
    refine XS.icmpNo X20.here hx rfl (hb hby d2_21) rfl (tlt (by decide)).2.1 ?_
    refine XS.aloadN X20.here hx rfl (hb hby d2_24) rfl rfl ?_
    refine st22 _ ?_
    refine XS.iloadN X22.here hx rfl (hb hby d2_28) rfl ?_
    refine X22.ldc2Long hx hown (mvT hZ (hw _ (own_w 15 rfl))) (g := (mkF m 29 #[.val (.ref a1), .val (.int (4 : Int32)), .val (.int (4 : Int32))] [(.int (4 : Int32)), (.ref b2o)])) rfl (hb hby d2_29) _ ?_
    refine st24 _ ?_
    refine XS.iinc X24.here hx rfl (hb hby d2_33) rfl (l' := #[.val (.ref a1), .val (.int (4 : Int32)), .val (.int (6 : Int32))]) rfl ?_
    refine XS.goto X24.here hx rfl (pc0 := 36) (pc' := 15) rfl (hb hby d2_36) (by decide) (by decide) ?_
    refine XS.iloadN X24.here hx rfl (hb hby d2_15) rfl ?_
    refine XS.aloadN X24.here hx rfl (hb hby d2_16) rfl rfl ?_
    refine st26 _ ?_
    refine X26.arraylength hx (by rw [e26]; exact Ar27.1) (State.isArrayOf_alike hZ.alike Ar27.2.1) (g := (mkF m 20 #[.val (.ref a1), .val (.int (4 : Int32)), .val (.int (6 : Int32))] [(.ref b2o), (.int (6 : Int32))])) rfl rfl (hb hby d2_20) _ ?_
    rw [len_of Sz27 Nn27]
    show Steps p.tables e below (T26.setTop (mkF m 21 #[.val (.ref a1), .val (.int (4 : Int32)), .val (.int (6 : Int32))] [(.int (8 : Int32)), (.int (6 : Int32))])) _
    refine XS.icmpNo X26.here hx rfl (hb hby d2_21) rfl (tlt (by decide)).2.1 ?_
    refine XS.aloadN X26.here hx rfl (hb hby d2_24) rfl rfl ?_
    refine st28 _ ?_
    refine XS.iloadN X28.here hx rfl (hb hby d2_28) rfl ?_
    refine X28.ldc2Long hx hown (mvT hZ (hw _ (own_w 15 rfl))) (g := (mkF m 29 #[.val (.ref a1), .val (.int (4 : Int32)), .val (.int (6 : Int32))] [(.int (6 : Int32)), (.ref b2o)])) rfl (hb hby d2_29) _ ?_
    refine st30 _ ?_
    refine XS.iinc X30.here hx rfl (hb hby d2_33) rfl (l' := #[.val (.ref a1), .val (.int (4 : Int32)), .val (.int (8 : Int32))]) rfl ?_
    refine XS.goto X30.here hx rfl (pc0 := 36) (pc' := 15) rfl (hb hby d2_36) (by decide) (by decide) ?_
    refine XS.iloadN X30.here hx rfl (hb hby d2_15) rfl ?_
    refine XS.aloadN X30.here hx rfl (hb hby d2_16) rfl rfl ?_
    refine st32 _ ?_
    refine X32.arraylength hx (by rw [e32]; exact Ar33.1) (State.isArrayOf_alike hZ.alike Ar33.2.1) (g := (mkF m 20 #[.val (.ref a1), .val (.int (4 : Int32)), .val (.int (8 : Int32))] [(.ref b2o), (.int (8 : Int32))])) rfl rfl (hb hby d2_20) _ ?_
    rw [len_of Sz33 Nn33]
    show Steps p.tables e below (T32.setTop (mkF m 21 #[.val (.ref a1), .val (.int (4 : Int32)), .val (.int (8 : Int32))] [(.int (8 : Int32)), (.int (8 : Int32))])) _
    refine XS.icmpYes X32.here hx rfl (pc0 := 21) (pc' := 39) rfl (hb hby d2_21) rfl (flt (by decide)).2.1 (by decide) (by decide) ?_
    refine XS.aloadN X32.here hx rfl (hb hby d2_39) rfl rfl ?_
    refine XS.iloadN X32.here hx rfl (hb hby d2_40) rfl ?_
    refine XS.i2l X32.here hx rfl (hb hby d2_41) rfl ?_
    refine st34 _ ?_
    refine XS.iconst X34.here hx rfl (hb hby d2_45) ?_
    refine XS.iadd X34.here hx rfl (hb hby d2_46) rfl ?_
    refine st37 _ ?_
    show Steps p.tables e below (T37.setTop (mkF m 50 #[.val (.ref a1), .val (.int (4 : Int32)), .val (.int (8 : Int32))] [])) _
    exact X37.returnOut hx Bd.returns (hb hby d2_50) hr
  · show QrmI4 Z a1 h0 n0 _ T37.heap _
    have f38 := (f35.wr W37)
    have f39 := (f31.other W37 (Or.inr (slot_ne (Or.inl (hw _ (own_w 14 rfl))) (Or.inl (hw _ (own_w 26 rfl))) (by decide) (t := (.array .long)) (t' := .int) (by decide) (by decide))))
    have f40 := (((((((F_size.ext E2).other W6 (Or.inr (slot_ne (Or.inl (hw _ (own_w 43 rfl))) (Or.inl (hw _ (own_w 14 rfl))) (by decide) (t := .int) (t' := (.array .long)) (by decide) (by decide)))).other W12 (Or.inl ne3)).other W18 (Or.inl ne3)).other W24 (Or.inl ne3)).other W30 (Or.inl ne3)).other W37 (Or.inr (slot_ne (Or.inl (hw _ (own_w 43 rfl))) (Or.inl (hw _ (own_w 26 rfl))) (by decide) (t := .int) (t' := .int) (by decide) (by decide))))
    have f41 := (((((((F_sorted.ext E2).other W6 (Or.inr (slot_ne (Or.inl (hw _ (own_w 41 rfl))) (Or.inl (hw _ (own_w 14 rfl))) (by decide) (t := (.array .long)) (t' := (.array .long)) (by decide) (by decide)))).other W12 (Or.inl ne3)).other W18 (Or.inl ne3)).other W24 (Or.inl ne3)).other W30 (Or.inl ne3)).other W37 (Or.inr (slot_ne (Or.inl (hw _ (own_w 41 rfl))) (Or.inl (hw _ (own_w 26 rfl))) (by decide) (t := (.array .long)) (t' := .int) (by decide) (by decide))))
    have f42 := (V30.other W37 (Ne.symm ne3))
    rw [e37]
    exact ⟨rfl, N37, K37, b2o, _, b2, bk2, f38, f39, Fw37, f40, f41, f42⟩
theorem ef_rmI8 (m : MethodId) (a1 : Addr) : entryFrame m #[(.ref a1), (.int (8 : Int32))] 3 = mkF m 0 #[.val (.ref a1), .val (.int (8 : Int32)), .unset] [] := by first | (simp [entryFrame, mkF, argsToLocals, Value.category]; done) | rfl
def QrmI8 (Z : State) (a1 : Addr) (h0 : Heap) (n0 : Nat) (v : Option Value) (h : Heap) (L : List Loc) : Prop := v = none ∧ Fr n0 L ∧ Keep h0 h [a1] ∧ ∃ (sa : Addr) (sk : ClassId), n0 ≤ sa ∧ h0.size ≤ sa ∧ Exa Z h a1 "com/example/pricewright/pricewright/core/LongSumTable" ∧ Fld Z h a1 "com/example/pricewright/pricewright/core/LongSumTable" "slots" "[J" (.ref sa) ∧ Fld Z h a1 "com/example/pricewright/pricewright/core/LongSumTable" "shift" "I" (.int (61 : Int32)) ∧ Fld Z h a1 "com/example/pricewright/pricewright/core/LongSumTable" "size" "I" (.int (0 : Int32)) ∧ Fld Z h a1 "com/example/pricewright/pricewright/core/LongSumTable" "sorted" "[J" .null ∧ Arv Z h sa sk .long (16 : Int32) (own_new8.map Value.long) (.long (0 : Int64))
set_option maxRecDepth 65536 in
set_option maxHeartbeats 40000000 in
theorem rmI8 (l : Launch) (Z : State) (a0 : Array Value) (hw : ∀ d ∈ tables_1, d.before a0 Z = true) (ws : List Jvm.Cond) (a1 : Addr) (h0 : Heap) (n0 : Nat) (Z0 : n0 ≤ h0.size) (E : Exa Z h0 a1 "com/example/pricewright/pricewright/core/LongSumTable") (F_slots : Fld Z h0 a1 "com/example/pricewright/pricewright/core/LongSumTable" "slots" "[J" .null) (F_shift : Fld Z h0 a1 "com/example/pricewright/pricewright/core/LongSumTable" "shift" "I" (.int (0 : Int32))) (F_size : Fld Z h0 a1 "com/example/pricewright/pricewright/core/LongSumTable" "size" "I" (.int (0 : Int32))) (F_sorted : Fld Z h0 a1 "com/example/pricewright/pricewright/core/LongSumTable" "sorted" "[J" .null) (ga : n0 ≤ a1) :
    MetFree l (⟨"com/example/pricewright/pricewright/core/LongSumTable", "<init>", "(I)V"⟩ : MethodName) (head1 (Jvm.Cond.code (⟨"com/example/pricewright/pricewright/core/LongSumTable", "<init>", "(I)V"⟩ : MethodName) prog_19_method_2_code 3 none :: ws) ({ frames := 2, cells := 1, slots := 16, locals := 29 } : Room)) (fun a U => a = #[(.ref a1), (.int (8 : Int32))] ∧ Z.Warmed39 U.vm ∧ U.heap = h0) (fun _ _ _ _ _ => True) (fun _ U o U' => ∃ v L, o = .returned v ∧ QrmI8 Z a1 h0 n0 v U'.heap L ∧ FrameEnd U o U' L ({ frames := 2, cells := 1, slots := 16, locals := 29 } : Room).cells ({ frames := 2, cells := 1, slots := 16, locals := 29 } : Room).slots) := by
  refine MetFree.of_bodySF (plainFor_of_name pn_2) hisR ?_
  intro p e s m args below meth c s₁ Bd hml0 hP hK
  obtain ⟨rfl, hZ, hh⟩ := hP
  have hx := Bd.exec
  have hby := Bd.bytes
  have hml : c.maxLocals = 3 := hml0
  have hown : s.vm.findClass "com/example/pricewright/pricewright/core/LongSumTable" = some m.cls := findClass_of_methodNamed Bd.named
  have hnm := (name_of_methodNamed Bd.named Bd.method).1
  have X0 : Stand p l e ({ frames := 2, cells := 1, slots := 16, locals := 29 } : Room) s m #[(.ref a1), (.int (8 : Int32))] below meth c s₁ [] 0 0 := Stand.of_body Bd
  have e0 : s₁.heap = h0 := by rw [← hh, Bd.state]; rfl
  have N0 := Fr.nil n0
  have pre0 : ∀ t, Steps p.tables e below (s₁.setTop (mkF m 0 #[.val (.ref a1), .val (.int (8 : Int32)), .unset] [])) t → Steps p.tables e below (s₁.setTop (entryFrame m #[(.ref a1), (.int (8 : Int32))] 3)) t := fun t k => castTop (ef_rmI8 m a1) k
  obtain ⟨T1, X1, e1, st1⟩ := initO X0 hx hZ hown (hw _ (own_w 9 rfl)) (hw _ (own_w 10 rfl)) (hw _ (own_w 11 rfl)) e0 (g := (mkF m 1 #[.val (.ref a1), .val (.int (8 : Int32)), .unset] [(.ref a1)])) rfl (by rw [hml]; rfl) rfl (hb hby d2_1) (by decide) (W := 0) (by show 2 * 0 + _ ≤ _; exact Nat.le_of_eq rfl) (by decide)
  obtain ⟨T2, h2, ck2, X2, e2, E2, A2, st2⟩ := newP X1 hx hZ (hw _ (own_w 12 rfl)) e1 (g := (mkF m 8 #[.val (.ref a1), .val (.int (8 : Int32)), .unset] [(.int (16 : Int32)), (.ref a1)])) rfl (hb hby d2_8) rfl (by decide) (cap := 16) (by decide) (by decide) (by decide) (by decide)
  obtain ⟨b2o, g2⟩ : ∃ z, z = h0.size := ⟨_, rfl⟩
  have b2 : n0 ≤ b2o := Nat.le_trans Z0 (Nat.le_of_eq g2.symm)
  have bk2 : h0.size ≤ b2o := Nat.le_trans (Keep.refl h0 [a1]).1 (Nat.le_of_eq g2.symm)
  have ne3 : a1 ≠ b2o := Nat.ne_of_lt (Nat.lt_of_lt_of_le E.lt (Nat.le_of_eq g2.symm))
  rw [← g2] at A2 st2
  have Z2 : n0 ≤ h2.size := Nat.le_trans Z0 E2.1
  have K2 : Keep h0 h2 [a1] := (Keep.refl h0 [a1]).ext E2
  have V2 : Arv Z h2 b2o ck2 .long (16 : Int32) [(.long (0 : Int64)), (.long (0 : Int64)), (.long (0 : Int64)), (.long (0 : Int64)), (.long (0 : Int64)), (.long (0 : Int64)), (.long (0 : Int64)), (.long (0 : Int64)), (.long (0 : Int64)), (.long (0 : Int64)), (.long (0 : Int64)), (.long (0 : Int64)), (.long (0 : Int64)), (.long (0 : Int64)), (.long (0 : Int64)), (.long (0 : Int64))] (.long (0 : Int64)) := (Arv.new A2 (by decide)).pad (pad_rep [] (.long (0 : Int64)) 16)
  have f4 := (E.ext E2)
  have f5 := (F_slots.ext E2)
  obtain ⟨T6, h6, X6, e6, W6, st6⟩ := putF X2 hx hZ hown (host := "") (Or.inl (hw _ (own_w 13 rfl))) Via.refl e2 f5 f4 (Or.inl (hw _ (own_w 14 rfl))) (hw _ (own_w 1 rfl)) (ty := (.array .long)) (by decide) rfl rfl (g := (mkF m 10 #[.val (.ref a1), .val (.int (8 : Int32)), .unset] [(.ref b2o), (.ref a1)])) rfl rfl (hb hby d2_10)
  have N6 := Fr.snoc X6 N0 ga
  have Z6 : n0 ≤ h6.size := by rw [W6.size]; exact Z2
  have K6 : Keep h0 h6 [a1] := K2.wr W6 (Or.inl (own_w 0 rfl))
  have Fw6 := f5.same W6
  obtain ⟨T7, X7, e7, st7⟩ := getF X6 hx hZ hown (host := "") (Or.inl (hw _ (own_w 13 rfl))) Via.refl e6 Fw6 (g := (mkF m 17 #[.val (.ref a1), .val (.int (8 : Int32)), .val (.int (0 : Int32))] [(.ref a1), (.int (0 : Int32))])) rfl rfl (hb hby d2_17)
  have f8 := (V2.other W6 (Ne.symm ne3))
  obtain ⟨cl9, Ar9, qk9, Sz9, Nn9, Hh9, Gg9⟩ := id (f8)
  obtain ⟨T10, X10, e10, st10⟩ := getF X7 hx hZ hown (host := "") (Or.inl (hw _ (own_w 13 rfl))) Via.refl e7 Fw6 (g := (mkF m 25 #[.val (.ref a1), .val (.int (8 : Int32)), .val (.int (0 : Int32))] [(.ref a1)])) rfl rfl (hb hby d2_25)
  obtain ⟨cl11, Ar11, qk11, Sz11, Nn11, Hh11, Gg11⟩ := id (f8)
  have hin12 : ¬ ((0 : Int32) < 0 ∨ cl11.slots.size ≤ ((0 : Int32)).toNatClampNeg) := inb_of Sz11 ⟨by decide, by decide⟩
  obtain ⟨T12, h12, X12, e12, W12, st12⟩ := stJ X10 hx hZ e10 Ar11 (j := (0 : Int32)) hin12  (g := (mkF m 32 #[.val (.ref a1), .val (.int (8 : Int32)), .val (.int (0 : Int32))] [(.long (-9223372036854775808 : Int64)), (.int (0 : Int32)), (.ref b2o)])) rfl rfl (hb hby d2_32)
  have N12 := Fr.snoc X12 N6 b2
  have Z12 : n0 ≤ h12.size := by rw [W12.size]; exact Z6
  have K12 : Keep h0 h12 [a1] := K6.wr W12 (Or.inr bk2)
  have V12 : Arv Z h12 b2o ck2 .long (16 : Int32) [(.long (-9223372036854775808 : Int64)), (.long (0 : Int64)), (.long (0 : Int64)), (.long (0 : Int64)), (.long (0 : Int64)), (.long (0 : Int64)), (.long (0 : Int64)), (.long (0 : Int64)), (.long (0 : Int64)), (.long (0 : Int64)), (.long (0 : Int64)), (.long (0 : Int64)), (.long (0 : Int64)), (.long (0 : Int64)), (.long (0 : Int64)), (.long (0 : Int64))] (.long (0 : Int64)) := Arv.set Ar11 qk11 Sz11 Nn11 Hh11 Gg11 rfl W12 0 rfl (Nat.le_of_ble_eq_true rfl)
  have f13 := (Fw6.other W12 (Or.inl ne3))
  obtain ⟨T14, X14, e14, st14⟩ := getF X12 hx hZ hown (host := "") (Or.inl (hw _ (own_w 13 rfl))) Via.refl e12 f13 (g := (mkF m 17 #[.val (.ref a1), .val (.int (8 : Int32)), .val (.int (2 : Int32))] [(.ref a1), (.int (2 : Int32))])) rfl rfl (hb hby d2_17)
  obtain ⟨cl15, Ar15, qk15, Sz15, Nn15, Hh15, Gg15⟩ := id (V12)
  obtain ⟨T16, X16, e16, st16⟩ := getF X14 hx hZ hown (host := "") (Or.inl (hw _ (own_w 13 rfl))) Via.refl e14 f13 (g := (mkF m 25 #[.val (.ref a1), .val (.int (8 : Int32)), .val (.int (2 : Int32))] [(.ref a1)])) rfl rfl (hb hby d2_25)
  obtain ⟨cl17, Ar17, qk17, Sz17, Nn17, Hh17, Gg17⟩ := id (V12)
  have hin18 : ¬ ((2 : Int32) < 0 ∨ cl17.slots.size ≤ ((2 : Int32)).toNatClampNeg) := inb_of Sz17 ⟨by decide, by decide⟩
  obtain ⟨T18, h18, X18, e18, W18, st18⟩ := stJ X16 hx hZ e16 Ar17 (j := (2 : Int32)) hin18  (g := (mkF m 32 #[.val (.ref a1), .val (.int (8 : Int32)), .val (.int (2 : Int32))] [(.long (-9223372036854775808 : Int64)), (.int (2 : Int32)), (.ref b2o)])) rfl rfl (hb hby d2_32)
  have N18 := Fr.snoc X18 N12 b2
  have Z18 : n0 ≤ h18.size := by rw [W18.size]; exact Z12
  have K18 : Keep h0 h18 [a1] := K12.wr W18 (Or.inr bk2)
  have V18 : Arv Z h18 b2o ck2 .long (16 : Int32) [(.long (-9223372036854775808 : Int64)), (.long (0 : Int64)), (.long (-9223372036854775808 : Int64)), (.long (0 : Int64)), (.long (0 : Int64)), (.long (0 : Int64)), (.long (0 : Int64)), (.long (0 : Int64)), (.long (0 : Int64)), (.long (0 : Int64)), (.long (0 : Int64)), (.long (0 : Int64)), (.long (0 : Int64)), (.long (0 : Int64)), (.long (0 : Int64)), (.long (0 : Int64))] (.long (0 : Int64)) := Arv.set Ar17 qk17 Sz17 Nn17 Hh17 Gg17 rfl W18 2 rfl (Nat.le_of_ble_eq_true rfl)
  have f19 := (f13.other W18 (Or.inl ne3))
  obtain ⟨T20, X20, e20, st20⟩ := getF X18 hx hZ hown (host := "") (Or.inl (hw _ (own_w 13 rfl))) Via.refl e18 f19 (g := (mkF m 17 #[.val (.ref a1), .val (.int (8 : Int32)), .val (.int (4 : Int32))] [(.ref a1), (.int (4 : Int32))])) rfl rfl (hb hby d2_17)
  obtain ⟨cl21, Ar21, qk21, Sz21, Nn21, Hh21, Gg21⟩ := id (V18)
  obtain ⟨T22, X22, e22, st22⟩ := getF X20 hx hZ hown (host := "") (Or.inl (hw _ (own_w 13 rfl))) Via.refl e20 f19 (g := (mkF m 25 #[.val (.ref a1), .val (.int (8 : Int32)), .val (.int (4 : Int32))] [(.ref a1)])) rfl rfl (hb hby d2_25)
  obtain ⟨cl23, Ar23, qk23, Sz23, Nn23, Hh23, Gg23⟩ := id (V18)
  have hin24 : ¬ ((4 : Int32) < 0 ∨ cl23.slots.size ≤ ((4 : Int32)).toNatClampNeg) := inb_of Sz23 ⟨by decide, by decide⟩
  obtain ⟨T24, h24, X24, e24, W24, st24⟩ := stJ X22 hx hZ e22 Ar23 (j := (4 : Int32)) hin24  (g := (mkF m 32 #[.val (.ref a1), .val (.int (8 : Int32)), .val (.int (4 : Int32))] [(.long (-9223372036854775808 : Int64)), (.int (4 : Int32)), (.ref b2o)])) rfl rfl (hb hby d2_32)
  have N24 := Fr.snoc X24 N18 b2
  have Z24 : n0 ≤ h24.size := by rw [W24.size]; exact Z18
  have K24 : Keep h0 h24 [a1] := K18.wr W24 (Or.inr bk2)
  have V24 : Arv Z h24 b2o ck2 .long (16 : Int32) [(.long (-9223372036854775808 : Int64)), (.long (0 : Int64)), (.long (-9223372036854775808 : Int64)), (.long (0 : Int64)), (.long (-9223372036854775808 : Int64)), (.long (0 : Int64)), (.long (0 : Int64)), (.long (0 : Int64)), (.long (0 : Int64)), (.long (0 : Int64)), (.long (0 : Int64)), (.long (0 : Int64)), (.long (0 : Int64)), (.long (0 : Int64)), (.long (0 : Int64)), (.long (0 : Int64))] (.long (0 : Int64)) := Arv.set Ar23 qk23 Sz23 Nn23 Hh23 Gg23 rfl W24 4 rfl (Nat.le_of_ble_eq_true rfl)
  have f25 := (f19.other W24 (Or.inl ne3))
  obtain ⟨T26, X26, e26, st26⟩ := getF X24 hx hZ hown (host := "") (Or.inl (hw _ (own_w 13 rfl))) Via.refl e24 f25 (g := (mkF m 17 #[.val (.ref a1), .val (.int (8 : Int32)), .val (.int (6 : Int32))] [(.ref a1), (.int (6 : Int32))])) rfl rfl (hb hby d2_17)
  obtain ⟨cl27, Ar27, qk27, Sz27, Nn27, Hh27, Gg27⟩ := id (V24)
  obtain ⟨T28, X28, e28, st28⟩ := getF X26 hx hZ hown (host := "") (Or.inl (hw _ (own_w 13 rfl))) Via.refl e26 f25 (g := (mkF m 25 #[.val (.ref a1), .val (.int (8 : Int32)), .val (.int (6 : Int32))] [(.ref a1)])) rfl rfl (hb hby d2_25)
  obtain ⟨cl29, Ar29, qk29, Sz29, Nn29, Hh29, Gg29⟩ := id (V24)
  have hin30 : ¬ ((6 : Int32) < 0 ∨ cl29.slots.size ≤ ((6 : Int32)).toNatClampNeg) := inb_of Sz29 ⟨by decide, by decide⟩
  obtain ⟨T30, h30, X30, e30, W30, st30⟩ := stJ X28 hx hZ e28 Ar29 (j := (6 : Int32)) hin30  (g := (mkF m 32 #[.val (.ref a1), .val (.int (8 : Int32)), .val (.int (6 : Int32))] [(.long (-9223372036854775808 : Int64)), (.int (6 : Int32)), (.ref b2o)])) rfl rfl (hb hby d2_32)
  have N30 := Fr.snoc X30 N24 b2
  have Z30 : n0 ≤ h30.size := by rw [W30.size]; exact Z24
  have K30 : Keep h0 h30 [a1] := K24.wr W30 (Or.inr bk2)
  have V30 : Arv Z h30 b2o ck2 .long (16 : Int32) [(.long (-9223372036854775808 : Int64)), (.long (0 : Int64)), (.long (-9223372036854775808 : Int64)), (.long (0 : Int64)), (.long (-9223372036854775808 : Int64)), (.long (0 : Int64)), (.long (-9223372036854775808 : Int64)), (.long (0 : Int64)), (.long (0 : Int64)), (.long (0 : Int64)), (.long (0 : Int64)), (.long (0 : Int64)), (.long (0 : Int64)), (.long (0 : Int64)), (.long (0 : Int64)), (.long (0 : Int64))] (.long (0 : Int64)) := Arv.set Ar29 qk29 Sz29 Nn29 Hh29 Gg29 rfl W30 6 rfl (Nat.le_of_ble_eq_true rfl)
  have f31 := (f25.other W30 (Or.inl ne3))
  obtain ⟨T32, X32, e32, st32⟩ := getF X30 hx hZ hown (host := "") (Or.inl (hw _ (own_w 13 rfl))) Via.refl e30 f31 (g := (mkF m 17 #[.val (.ref a1), .val (.int (8 : Int32)), .val (.int (8 : Int32))] [(.ref a1), (.int (8 : Int32))])) rfl rfl (hb hby d2_17)
  obtain ⟨cl33, Ar33, qk33, Sz33, Nn33, Hh33, Gg33⟩ := id (V30)
  obtain ⟨T34, X34, e34, st34⟩ := getF X32 hx hZ hown (host := "") (Or.inl (hw _ (own_w 13 rfl))) Via.refl e32 f31 (g := (mkF m 25 #[.val (.ref a1), .val (.int (8 : Int32)), .val (.int (8 : Int32))] [(.ref a1)])) rfl rfl (hb hby d2_25)
  obtain ⟨cl35, Ar35, qk35, Sz35, Nn35, Hh35, Gg35⟩ := id (V30)
  have hin36 : ¬ ((8 : Int32) < 0 ∨ cl35.slots.size ≤ ((8 : Int32)).toNatClampNeg) := inb_of Sz35 ⟨by decide, by decide⟩
  obtain ⟨T36, h36, X36, e36, W36, st36⟩ := stJ X34 hx hZ e34 Ar35 (j := (8 : Int32)) hin36  (g := (mkF m 32 #[.val (.ref a1), .val (.int (8 : Int32)), .val (.int (8 : Int32))] [(.long (-9223372036854775808 : Int64)), (.int (8 : Int32)), (.ref b2o)])) rfl rfl (hb hby d2_32)
  have N36 := Fr.snoc X36 N30 b2
  have Z36 : n0 ≤ h36.size := by rw [W36.size]; exact Z30
  have K36 : Keep h0 h36 [a1] := K30.wr W36 (Or.inr bk2)
  have V36 : Arv Z h36 b2o ck2 .long (16 : Int32) [(.long (-9223372036854775808 : Int64)), (.long (0 : Int64)), (.long (-9223372036854775808 : Int64)), (.long (0 : Int64)), (.long (-9223372036854775808 : Int64)), (.long (0 : Int64)), (.long (-9223372036854775808 : Int64)), (.long (0 : Int64)), (.long (-9223372036854775808 : Int64)), (.long (0 : Int64)), (.long (0 : Int64)), (.long (0 : Int64)), (.long (0 : Int64)), (.long (0 : Int64)), (.long (0 : Int64)), (.long (0 : Int64))] (.long (0 : Int64)) := Arv.set Ar35 qk35 Sz35 Nn35 Hh35 Gg35 rfl W36 8 rfl (Nat.le_of_ble_eq_true rfl)
  have f37 := (f31.other W36 (Or.inl ne3))
  obtain ⟨T38, X38, e38, st38⟩ := getF X36 hx hZ hown (host := "") (Or.inl (hw _ (own_w 13 rfl))) Via.refl e36 f37 (g := (mkF m 17 #[.val (.ref a1), .val (.int (8 : Int32)), .val (.int (10 : Int32))] [(.ref a1), (.int (10 : Int32))])) rfl rfl (hb hby d2_17)
  obtain ⟨cl39, Ar39, qk39, Sz39, Nn39, Hh39, Gg39⟩ := id (V36)
  obtain ⟨T40, X40, e40, st40⟩ := getF X38 hx hZ hown (host := "") (Or.inl (hw _ (own_w 13 rfl))) Via.refl e38 f37 (g := (mkF m 25 #[.val (.ref a1), .val (.int (8 : Int32)), .val (.int (10 : Int32))] [(.ref a1)])) rfl rfl (hb hby d2_25)
  obtain ⟨cl41, Ar41, qk41, Sz41, Nn41, Hh41, Gg41⟩ := id (V36)
  have hin42 : ¬ ((10 : Int32) < 0 ∨ cl41.slots.size ≤ ((10 : Int32)).toNatClampNeg) := inb_of Sz41 ⟨by decide, by decide⟩
  obtain ⟨T42, h42, X42, e42, W42, st42⟩ := stJ X40 hx hZ e40 Ar41 (j := (10 : Int32)) hin42  (g := (mkF m 32 #[.val (.ref a1), .val (.int (8 : Int32)), .val (.int (10 : Int32))] [(.long (-9223372036854775808 : Int64)), (.int (10 : Int32)), (.ref b2o)])) rfl rfl (hb hby d2_32)
  have N42 := Fr.snoc X42 N36 b2
  have Z42 : n0 ≤ h42.size := by rw [W42.size]; exact Z36
  have K42 : Keep h0 h42 [a1] := K36.wr W42 (Or.inr bk2)
  have V42 : Arv Z h42 b2o ck2 .long (16 : Int32) [(.long (-9223372036854775808 : Int64)), (.long (0 : Int64)), (.long (-9223372036854775808 : Int64)), (.long (0 : Int64)), (.long (-9223372036854775808 : Int64)), (.long (0 : Int64)), (.long (-9223372036854775808 : Int64)), (.long (0 : Int64)), (.long (-9223372036854775808 : Int64)), (.long (0 : Int64)), (.long (-9223372036854775808 : Int64)), (.long (0 : Int64)), (.long (0 : Int64)), (.long (0 : Int64)), (.long (0 : Int64)), (.long (0 : Int64))] (.long (0 : Int64)) := Arv.set Ar41 qk41 Sz41 Nn41 Hh41 Gg41 rfl W42 10 rfl (Nat.le_of_ble_eq_true rfl)
  have f43 := (f37.other W42 (Or.inl ne3))
  obtain ⟨T44, X44, e44, st44⟩ := getF X42 hx hZ hown (host := "") (Or.inl (hw _ (own_w 13 rfl))) Via.refl e42 f43 (g := (mkF m 17 #[.val (.ref a1), .val (.int (8 : Int32)), .val (.int (12 : Int32))] [(.ref a1), (.int (12 : Int32))])) rfl rfl (hb hby d2_17)
  obtain ⟨cl45, Ar45, qk45, Sz45, Nn45, Hh45, Gg45⟩ := id (V42)
  obtain ⟨T46, X46, e46, st46⟩ := getF X44 hx hZ hown (host := "") (Or.inl (hw _ (own_w 13 rfl))) Via.refl e44 f43 (g := (mkF m 25 #[.val (.ref a1), .val (.int (8 : Int32)), .val (.int (12 : Int32))] [(.ref a1)])) rfl rfl (hb hby d2_25)
  obtain ⟨cl47, Ar47, qk47, Sz47, Nn47, Hh47, Gg47⟩ := id (V42)
  have hin48 : ¬ ((12 : Int32) < 0 ∨ cl47.slots.size ≤ ((12 : Int32)).toNatClampNeg) := inb_of Sz47 ⟨by decide, by decide⟩
  obtain ⟨T48, h48, X48, e48, W48, st48⟩ := stJ X46 hx hZ e46 Ar47 (j := (12 : Int32)) hin48  (g := (mkF m 32 #[.val (.ref a1), .val (.int (8 : Int32)), .val (.int (12 : Int32))] [(.long (-9223372036854775808 : Int64)), (.int (12 : Int32)), (.ref b2o)])) rfl rfl (hb hby d2_32)
  have N48 := Fr.snoc X48 N42 b2
  have Z48 : n0 ≤ h48.size := by rw [W48.size]; exact Z42
  have K48 : Keep h0 h48 [a1] := K42.wr W48 (Or.inr bk2)
  have V48 : Arv Z h48 b2o ck2 .long (16 : Int32) [(.long (-9223372036854775808 : Int64)), (.long (0 : Int64)), (.long (-9223372036854775808 : Int64)), (.long (0 : Int64)), (.long (-9223372036854775808 : Int64)), (.long (0 : Int64)), (.long (-9223372036854775808 : Int64)), (.long (0 : Int64)), (.long (-9223372036854775808 : Int64)), (.long (0 : Int64)), (.long (-9223372036854775808 : Int64)), (.long (0 : Int64)), (.long (-9223372036854775808 : Int64)), (.long (0 : Int64)), (.long (0 : Int64)), (.long (0 : Int64))] (.long (0 : Int64)) := Arv.set Ar47 qk47 Sz47 Nn47 Hh47 Gg47 rfl W48 12 rfl (Nat.le_of_ble_eq_true rfl)
  have f49 := (f43.other W48 (Or.inl ne3))
  obtain ⟨T50, X50, e50, st50⟩ := getF X48 hx hZ hown (host := "") (Or.inl (hw _ (own_w 13 rfl))) Via.refl e48 f49 (g := (mkF m 17 #[.val (.ref a1), .val (.int (8 : Int32)), .val (.int (14 : Int32))] [(.ref a1), (.int (14 : Int32))])) rfl rfl (hb hby d2_17)
  obtain ⟨cl51, Ar51, qk51, Sz51, Nn51, Hh51, Gg51⟩ := id (V48)
  obtain ⟨T52, X52, e52, st52⟩ := getF X50 hx hZ hown (host := "") (Or.inl (hw _ (own_w 13 rfl))) Via.refl e50 f49 (g := (mkF m 25 #[.val (.ref a1), .val (.int (8 : Int32)), .val (.int (14 : Int32))] [(.ref a1)])) rfl rfl (hb hby d2_25)
  obtain ⟨cl53, Ar53, qk53, Sz53, Nn53, Hh53, Gg53⟩ := id (V48)
  have hin54 : ¬ ((14 : Int32) < 0 ∨ cl53.slots.size ≤ ((14 : Int32)).toNatClampNeg) := inb_of Sz53 ⟨by decide, by decide⟩
  obtain ⟨T54, h54, X54, e54, W54, st54⟩ := stJ X52 hx hZ e52 Ar53 (j := (14 : Int32)) hin54  (g := (mkF m 32 #[.val (.ref a1), .val (.int (8 : Int32)), .val (.int (14 : Int32))] [(.long (-9223372036854775808 : Int64)), (.int (14 : Int32)), (.ref b2o)])) rfl rfl (hb hby d2_32)
  have N54 := Fr.snoc X54 N48 b2
  have Z54 : n0 ≤ h54.size := by rw [W54.size]; exact Z48
  have K54 : Keep h0 h54 [a1] := K48.wr W54 (Or.inr bk2)
  have V54 : Arv Z h54 b2o ck2 .long (16 : Int32) [(.long (-9223372036854775808 : Int64)), (.long (0 : Int64)), (.long (-9223372036854775808 : Int64)), (.long (0 : Int64)), (.long (-9223372036854775808 : Int64)), (.long (0 : Int64)), (.long (-9223372036854775808 : Int64)), (.long (0 : Int64)), (.long (-9223372036854775808 : Int64)), (.long (0 : Int64)), (.long (-9223372036854775808 : Int64)), (.long (0 : Int64)), (.long (-9223372036854775808 : Int64)), (.long (0 : Int64)), (.long (-9223372036854775808 : Int64)), (.long (0 : Int64))] (.long (0 : Int64)) := Arv.set Ar53 qk53 Sz53 Nn53 Hh53 Gg53 rfl W54 14 rfl (Nat.le_of_ble_eq_true rfl)
  have f55 := (f49.other W54 (Or.inl ne3))
  obtain ⟨T56, X56, e56, st56⟩ := getF X54 hx hZ hown (host := "") (Or.inl (hw _ (own_w 13 rfl))) Via.refl e54 f55 (g := (mkF m 17 #[.val (.ref a1), .val (.int (8 : Int32)), .val (.int (16 : Int32))] [(.ref a1), (.int (16 : Int32))])) rfl rfl (hb hby d2_17)
  obtain ⟨cl57, Ar57, qk57, Sz57, Nn57, Hh57, Gg57⟩ := id (V54)
  obtain ⟨_, _, ⟨T58, Lq58, kq58, nq58⟩, -, X58, ⟨Lc58, hQ58, lq58, yq58, zq58⟩, st58⟩ := Jvm.LawKit.callS X56 hx (y := (⟨"java/lang/Long", "numberOfLeadingZeros", "(J)I"⟩ : MethodName)) hown (mvT hZ (hw _ (own_w 16 rfl))) (mvT hZ (hw _ (own_w 17 rfl))) (mvT hZ (hw _ (own_w 18 rfl))) (mvT hZ (hw _ (own_w 19 rfl))) (by decide) (backOf (W := 1) (rmZ8 l Z a0 hw []   h54 n0 Z54 ) hZ (hw _ (own_w 19 rfl)) (hw _ (own_w 18 rfl)) (by decide) (by decide)) (g := (mkF m 42 #[.val (.ref a1), .val (.int (8 : Int32)), .val (.int (16 : Int32))] [(.long (8 : Int64)), (.ref a1)])) rfl (by rw [hml]; rfl) (argsL := [(.long (8 : Int64))]) (rest := [(.ref a1)]) (lenOf pd_1 rfl) rfl (by show 2 * 0 + _ ≤ _; exact Nat.le_of_eq rfl) (hb hby d2_42) (fun _ _ => ⟨rfl, e56, (by decide : 1 + 0 ≤ _), (by decide : 16 + 0 ≤ _)⟩)
  dsimp only [Pt.U, Pt.locs, Pt.cells, Pt.slots] at X58 lq58 yq58 zq58 st58 hQ58
  subst lq58 yq58 zq58
  obtain ⟨r58, hr58, rfl, N58q, e58⟩ := hQ58
  have N58 := Fr.app N54 N58q
  subst hr58
  have f59 := (((((((((f4.wr W6).wr W12).wr W18).wr W24).wr W30).wr W36).wr W42).wr W48).wr W54)
  have f60 := ((((((((((F_shift.ext E2).other W6 (Or.inr (slot_ne (Or.inl (hw _ (own_w 26 rfl))) (Or.inl (hw _ (own_w 14 rfl))) (by decide) (t := .int) (t' := (.array .long)) (by decide) (by decide)))).other W12 (Or.inl ne3)).other W18 (Or.inl ne3)).other W24 (Or.inl ne3)).other W30 (Or.inl ne3)).other W36 (Or.inl ne3)).other W42 (Or.inl ne3)).other W48 (Or.inl ne3)).other W54 (Or.inl ne3))
  obtain ⟨T61, h61, X61, e61, W61, st61⟩ := putF X58 hx hZ hown (host := "") (Or.inl (hw _ (own_w 25 rfl))) Via.refl e58 f60 f59 (Or.inl (hw _ (own_w 26 rfl))) (hw _ (own_w 1 rfl)) (ty := .int) (by decide) rfl rfl (g := (mkF m 47 #[.val (.ref a1), .val (.int (8 : Int32)), .val (.int (16 : Int32))] [(.int (61 : Int32)), (.ref a1)])) rfl rfl (hb hby d2_47)
  have N61 := Fr.snoc X61 N58 ga
  have Z61 : n0 ≤ h61.size := by rw [W61.size]; exact Z54
  have K61 : Keep h0 h61 [a1] := K54.wr W61 (Or.inl (own_w 0 rfl))
  have Fw61 := f60.same W61
  obtain ⟨fs, hr, hrun, hended, hW, hsame⟩ := X61.leave (v := none) (fun _ => rfl) (BodyLoose.notSynchronized Bd)
  refine ⟨_, _, pre0 _ ?_, hrun, hended, _, _, rfl, ?_, ⟨_, rfl⟩, hW, hsame.mono (by decide) (by decide)⟩
  · show Steps p.tables e below (s₁.setTop (mkF m 0 #[.val (.ref a1), .val (.int (8 : Int32)), .unset] [])) _
    refine XS.aloadN X0.here hx rfl (hb hby d2_0) rfl rfl ?_
    refine st1 _ ?_
    refine XS.aloadN X1.here hx rfl (hb hby d2_4) rfl rfl ?_
    refine XS.iconst X1.here hx rfl (hb hby d2_5) ?_
    refine XS.iloadN X1.here hx rfl (hb hby d2_6) rfl ?_
    refine XS.imul X1.here hx rfl (hb hby d2_7) rfl ?_
    refine st2 _ ?_
    refine st6 _ ?_
    refine XS.iconst X6.here hx rfl (hb hby d2_13) ?_
    refine XS.istoreN X6.here hx rfl (hb hby d2_14) rfl (l' := #[.val (.ref a1), .val (.int (8 : Int32)), .val (.int (0 : Int32))]) rfl ?_
    refine XS.iloadN X6.here hx rfl (hb hby d2_15) rfl ?_
    refine XS.aloadN X6.here hx rfl (hb hby d2_16) rfl rfl ?_
    refine st7 _ ?_
    refine X7.arraylength hx (by rw [e7]; exact Ar9.1) (State.isArrayOf_alike hZ.alike Ar9.2.1) (g := (mkF m 20 #[.val (.ref a1), .val (.int (8 : Int32)), .val (.int (0 : Int32))] [(.ref b2o), (.int (0 : Int32))])) rfl rfl (hb hby d2_20) _ ?_
    rw [len_of Sz9 Nn9]
    show Steps p.tables e below (T7.setTop (mkF m 21 #[.val (.ref a1), .val (.int (8 : Int32)), .val (.int (0 : Int32))] [(.int (16 : Int32)), (.int (0 : Int32))])) _
    refine XS.icmpNo X7.here hx rfl (hb hby d2_21) rfl (tlt (by decide)).2.1 ?_
    refine XS.aloadN X7.here hx rfl (hb hby d2_24) rfl rfl ?_
    refine st10 _ ?_
    refine XS.iloadN X10.here hx rfl (hb hby d2_28) rfl ?_
    refine X10.ldc2Long hx hown (mvT hZ (hw _ (own_w 15 rfl))) (g := (mkF m 29 #[.val (.ref a1), .val (.int (8 : Int32)), .val (.int (0 : Int32))] [(.int (0 : Int32)), (.ref b2o)])) rfl (hb hby d2_29) _ ?_
    refine st12 _ ?_
    refine XS.iinc X12.here hx rfl (hb hby d2_33) rfl (l' := #[.val (.ref a1), .val (.int (8 : Int32)), .val (.int (2 : Int32))]) rfl ?_
    refine XS.goto X12.here hx rfl (pc0 := 36) (pc' := 15) rfl (hb hby d2_36) (by decide) (by decide) ?_
    refine XS.iloadN X12.here hx rfl (hb hby d2_15) rfl ?_
    refine XS.aloadN X12.here hx rfl (hb hby d2_16) rfl rfl ?_
    refine st14 _ ?_
    refine X14.arraylength hx (by rw [e14]; exact Ar15.1) (State.isArrayOf_alike hZ.alike Ar15.2.1) (g := (mkF m 20 #[.val (.ref a1), .val (.int (8 : Int32)), .val (.int (2 : Int32))] [(.ref b2o), (.int (2 : Int32))])) rfl rfl (hb hby d2_20) _ ?_
    rw [len_of Sz15 Nn15]
    show Steps p.tables e below (T14.setTop (mkF m 21 #[.val (.ref a1), .val (.int (8 : Int32)), .val (.int (2 : Int32))] [(.int (16 : Int32)), (.int (2 : Int32))])) _
    refine XS.icmpNo X14.here hx rfl (hb hby d2_21) rfl (tlt (by decide)).2.1 ?_
    refine XS.aloadN X14.here hx rfl (hb hby d2_24) rfl rfl ?_
    refine st16 _ ?_
    refine XS.iloadN X16.here hx rfl (hb hby d2_28) rfl ?_
    refine X16.ldc2Long hx hown (mvT hZ (hw _ (own_w 15 rfl))) (g := (mkF m 29 #[.val (.ref a1), .val (.int (8 : Int32)), .val (.int (2 : Int32))] [(.int (2 : Int32)), (.ref b2o)])) rfl (hb hby d2_29) _ ?_
    refine st18 _ ?_
    refine XS.iinc X18.here hx rfl (hb hby d2_33) rfl (l' := #[.val (.ref a1), .val (.int (8 : Int32)), .val (.int (4 : Int32))]) rfl ?_
    refine XS.goto X18.here hx rfl (pc0 := 36) (pc' := 15) rfl (hb hby d2_36) (by decide) (by decide) ?_
    refine XS.iloadN X18.here hx rfl (hb hby d2_15) rfl ?_
    refine XS.aloadN X18.here hx rfl (hb hby d2_16) rfl rfl ?_
    refine st20 _ ?_
    refine X20.arraylength hx (by rw [e20]; exact Ar21.1) (State.isArrayOf_alike hZ.alike Ar21.2.1) (g := (mkF m 20 #[.val (.ref a1), .val (.int (8 : Int32)), .val (.int (4 : Int32))] [(.ref b2o), (.int (4 : Int32))])) rfl rfl (hb hby d2_20) _ ?_
    rw [len_of Sz21 Nn21]
    show Steps p.tables e below (T20.setTop (mkF m 21 #[.val (.ref a1), .val (.int (8 : Int32)), .val (.int (4 : Int32))] [(.int (16 : Int32)), (.int (4 : Int32))])) _
    refine XS.icmpNo X20.here hx rfl (hb hby d2_21) rfl (tlt (by decide)).2.1 ?_
    refine XS.aloadN X20.here hx rfl (hb hby d2_24) rfl rfl ?_
    refine st22 _ ?_
    refine XS.iloadN X22.here hx rfl (hb hby d2_28) rfl ?_
    refine X22.ldc2Long hx hown (mvT hZ (hw _ (own_w 15 rfl))) (g := (mkF m 29 #[.val (.ref a1), .val (.int (8 : Int32)), .val (.int (4 : Int32))] [(.int (4 : Int32)), (.ref b2o)])) rfl (hb hby d2_29) _ ?_
    refine st24 _ ?_
    refine XS.iinc X24.here hx rfl (hb hby d2_33) rfl (l' := #[.val (.ref a1), .val (.int (8 : Int32)), .val (.int (6 : Int32))]) rfl ?_
    refine XS.goto X24.here hx rfl (pc0 := 36) (pc' := 15) rfl (hb hby d2_36) (by decide) (by decide) ?_
    refine XS.iloadN X24.here hx rfl (hb hby d2_15) rfl ?_
    refine XS.aloadN X24.here hx rfl (hb hby d2_16) rfl rfl ?_
    refine st26 _ ?_
    refine X26.arraylength hx (by rw [e26]; exact Ar27.1) (State.isArrayOf_alike hZ.alike Ar27.2.1) (g := (mkF m 20 #[.val (.ref a1), .val (.int (8 : Int32)), .val (.int (6 : Int32))] [(.ref b2o), (.int (6 : Int32))])) rfl rfl (hb hby d2_20) _ ?_
    rw [len_of Sz27 Nn27]
    show Steps p.tables e below (T26.setTop (mkF m 21 #[.val (.ref a1), .val (.int (8 : Int32)), .val (.int (6 : Int32))] [(.int (16 : Int32)), (.int (6 : Int32))])) _
    refine XS.icmpNo X26.here hx rfl (hb hby d2_21) rfl (tlt (by decide)).2.1 ?_
    refine XS.aloadN X26.here hx rfl (hb hby d2_24) rfl rfl ?_
    refine st28 _ ?_
    refine XS.iloadN X28.here hx rfl (hb hby d2_28) rfl ?_
    refine X28.ldc2Long hx hown (mvT hZ (hw _ (own_w 15 rfl))) (g := (mkF m 29 #[.val (.ref a1), .val (.int (8 : Int32)), .val (.int (6 : Int32))] [(.int (6 : Int32)), (.ref b2o)])) rfl (hb hby d2_29) _ ?_
    refine st30 _ ?_
    refine XS.iinc X30.here hx rfl (hb hby d2_33) rfl (l' := #[.val (.ref a1), .val (.int (8 : Int32)), .val (.int (8 : Int32))]) rfl ?_
    refine XS.goto X30.here hx rfl (pc0 := 36) (pc' := 15) rfl (hb hby d2_36) (by decide) (by decide) ?_
    refine XS.iloadN X30.here hx rfl (hb hby d2_15) rfl ?_
    refine XS.aloadN X30.here hx rfl (hb hby d2_16) rfl rfl ?_
    refine st32 _ ?_
    refine X32.arraylength hx (by rw [e32]; exact Ar33.1) (State.isArrayOf_alike hZ.alike Ar33.2.1) (g := (mkF m 20 #[.val (.ref a1), .val (.int (8 : Int32)), .val (.int (8 : Int32))] [(.ref b2o), (.int (8 : Int32))])) rfl rfl (hb hby d2_20) _ ?_
    rw [len_of Sz33 Nn33]
    show Steps p.tables e below (T32.setTop (mkF m 21 #[.val (.ref a1), .val (.int (8 : Int32)), .val (.int (8 : Int32))] [(.int (16 : Int32)), (.int (8 : Int32))])) _
    refine XS.icmpNo X32.here hx rfl (hb hby d2_21) rfl (tlt (by decide)).2.1 ?_
    refine XS.aloadN X32.here hx rfl (hb hby d2_24) rfl rfl ?_
    refine st34 _ ?_
    refine XS.iloadN X34.here hx rfl (hb hby d2_28) rfl ?_
    refine X34.ldc2Long hx hown (mvT hZ (hw _ (own_w 15 rfl))) (g := (mkF m 29 #[.val (.ref a1), .val (.int (8 : Int32)), .val (.int (8 : Int32))] [(.int (8 : Int32)), (.ref b2o)])) rfl (hb hby d2_29) _ ?_
    refine st36 _ ?_
    refine XS.iinc X36.here hx rfl (hb hby d2_33) rfl (l' := #[.val (.ref a1), .val (.int (8 : Int32)), .val (.int (10 : Int32))]) rfl ?_
    refine XS.goto X36.here hx rfl (pc0 := 36) (pc' := 15) rfl (hb hby d2_36) (by decide) (by decide) ?_
    refine XS.iloadN X36.here hx rfl (hb hby d2_15) rfl ?_
    refine XS.aloadN X36.here hx rfl (hb hby d2_16) rfl rfl ?_
    refine st38 _ ?_
    refine X38.arraylength hx (by rw [e38]; exact Ar39.1) (State.isArrayOf_alike hZ.alike Ar39.2.1) (g := (mkF m 20 #[.val (.ref a1), .val (.int (8 : Int32)), .val (.int (10 : Int32))] [(.ref b2o), (.int (10 : Int32))])) rfl rfl (hb hby d2_20) _ ?_
    rw [len_of Sz39 Nn39]
    show Steps p.tables e below (T38.setTop (mkF m 21 #[.val (.ref a1), .val (.int (8 : Int32)), .val (.int (10 : Int32))] [(.int (16 : Int32)), (.int (10 : Int32))])) _
    refine XS.icmpNo X38.here hx rfl (hb hby d2_21) rfl (tlt (by decide)).2.1 ?_
    refine XS.aloadN X38.here hx rfl (hb hby d2_24) rfl rfl ?_
    refine st40 _ ?_
    refine XS.iloadN X40.here hx rfl (hb hby d2_28) rfl ?_
    refine X40.ldc2Long hx hown (mvT hZ (hw _ (own_w 15 rfl))) (g := (mkF m 29 #[.val (.ref a1), .val (.int (8 : Int32)), .val (.int (10 : Int32))] [(.int (10 : Int32)), (.ref b2o)])) rfl (hb hby d2_29) _ ?_
    refine st42 _ ?_
    refine XS.iinc X42.here hx rfl (hb hby d2_33) rfl (l' := #[.val (.ref a1), .val (.int (8 : Int32)), .val (.int (12 : Int32))]) rfl ?_
    refine XS.goto X42.here hx rfl (pc0 := 36) (pc' := 15) rfl (hb hby d2_36) (by decide) (by decide) ?_
    refine XS.iloadN X42.here hx rfl (hb hby d2_15) rfl ?_
    refine XS.aloadN X42.here hx rfl (hb hby d2_16) rfl rfl ?_
    refine st44 _ ?_
    refine X44.arraylength hx (by rw [e44]; exact Ar45.1) (State.isArrayOf_alike hZ.alike Ar45.2.1) (g := (mkF m 20 #[.val (.ref a1), .val (.int (8 : Int32)), .val (.int (12 : Int32))] [(.ref b2o), (.int (12 : Int32))])) rfl rfl (hb hby d2_20) _ ?_
    rw [len_of Sz45 Nn45]
    show Steps p.tables e below (T44.setTop (mkF m 21 #[.val (.ref a1), .val (.int (8 : Int32)), .val (.int (12 : Int32))] [(.int (16 : Int32)), (.int (12 : Int32))])) _
    refine XS.icmpNo X44.here hx rfl (hb hby d2_21) rfl (tlt (by decide)).2.1 ?_
    refine XS.aloadN X44.here hx rfl (hb hby d2_24) rfl rfl ?_
    refine st46 _ ?_
    refine XS.iloadN X46.here hx rfl (hb hby d2_28) rfl ?_
    refine X46.ldc2Long hx hown (mvT hZ (hw _ (own_w 15 rfl))) (g := (mkF m 29 #[.val (.ref a1), .val (.int (8 : Int32)), .val (.int (12 : Int32))] [(.int (12 : Int32)), (.ref b2o)])) rfl (hb hby d2_29) _ ?_
    refine st48 _ ?_
    refine XS.iinc X48.here hx rfl (hb hby d2_33) rfl (l' := #[.val (.ref a1), .val (.int (8 : Int32)), .val (.int (14 : Int32))]) rfl ?_
    refine XS.goto X48.here hx rfl (pc0 := 36) (pc' := 15) rfl (hb hby d2_36) (by decide) (by decide) ?_
    refine XS.iloadN X48.here hx rfl (hb hby d2_15) rfl ?_
    refine XS.aloadN X48.here hx rfl (hb hby d2_16) rfl rfl ?_
    refine st50 _ ?_
    refine X50.arraylength hx (by rw [e50]; exact Ar51.1) (State.isArrayOf_alike hZ.alike Ar51.2.1) (g := (mkF m 20 #[.val (.ref a1), .val (.int (8 : Int32)), .val (.int (14 : Int32))] [(.ref b2o), (.int (14 : Int32))])) rfl rfl (hb hby d2_20) _ ?_
    rw [len_of Sz51 Nn51]
    show Steps p.tables e below (T50.setTop (mkF m 21 #[.val (.ref a1), .val (.int (8 : Int32)), .val (.int (14 : Int32))] [(.int (16 : Int32)), (.int (14 : Int32))])) _
    refine XS.icmpNo X50.here hx rfl (hb hby d2_21) rfl (tlt (by decide)).2.1 ?_
    refine XS.aloadN X50.here hx rfl (hb hby d2_24) rfl rfl ?_
    refine st52 _ ?_
    refine XS.iloadN X52.here hx rfl (hb hby d2_28) rfl ?_
    refine X52.ldc2Long hx hown (mvT hZ (hw _ (own_w 15 rfl))) (g := (mkF m 29 #[.val (.ref a1), .val (.int (8 : Int32)), .val (.int (14 : Int32))] [(.int (14 : Int32)), (.ref b2o)])) rfl (hb hby d2_29) _ ?_
    refine st54 _ ?_
    refine XS.iinc X54.here hx rfl (hb hby d2_33) rfl (l' := #[.val (.ref a1), .val (.int (8 : Int32)), .val (.int (16 : Int32))]) rfl ?_
    refine XS.goto X54.here hx rfl (pc0 := 36) (pc' := 15) rfl (hb hby d2_36) (by decide) (by decide) ?_
    refine XS.iloadN X54.here hx rfl (hb hby d2_15) rfl ?_
    refine XS.aloadN X54.here hx rfl (hb hby d2_16) rfl rfl ?_
    refine st56 _ ?_
    refine X56.arraylength hx (by rw [e56]; exact Ar57.1) (State.isArrayOf_alike hZ.alike Ar57.2.1) (g := (mkF m 20 #[.val (.ref a1), .val (.int (8 : Int32)), .val (.int (16 : Int32))] [(.ref b2o), (.int (16 : Int32))])) rfl rfl (hb hby d2_20) _ ?_
    rw [len_of Sz57 Nn57]
    show Steps p.tables e below (T56.setTop (mkF m 21 #[.val (.ref a1), .val (.int (8 : Int32)), .val (.int (16 : Int32))] [(.int (16 : Int32)), (.int (16 : Int32))])) _
    refine XS.icmpYes X56.here hx rfl (pc0 := 21) (pc' := 39) rfl (hb hby d2_21) rfl (flt (by decide)).2.1 (by decide) (by decide) ?_
    refine XS.aloadN X56.here hx rfl (hb hby d2_39) rfl rfl ?_
    refine XS.iloadN X56.here hx rfl (hb hby d2_40) rfl ?_
    refine XS.i2l X56.here hx rfl (hb hby d2_41) rfl ?_
    refine st58 _ ?_
    refine XS.iconst X58.here hx rfl (hb hby d2_45) ?_
    refine XS.iadd X58.here hx rfl (hb hby d2_46) rfl ?_
    refine st61 _ ?_
    show Steps p.tables e below (T61.setTop (mkF m 50 #[.val (.ref a1), .val (.int (8 : Int32)), .val (.int (16 : Int32))] [])) _
    exact X61.returnOut hx Bd.returns (hb hby d2_50) hr
  · show QrmI8 Z a1 h0 n0 _ T61.heap _
    have f62 := (f59.wr W61)
    have f63 := (f55.other W61 (Or.inr (slot_ne (Or.inl (hw _ (own_w 14 rfl))) (Or.inl (hw _ (own_w 26 rfl))) (by decide) (t := (.array .long)) (t' := .int) (by decide) (by decide))))
    have f64 := (((((((((((F_size.ext E2).other W6 (Or.inr (slot_ne (Or.inl (hw _ (own_w 43 rfl))) (Or.inl (hw _ (own_w 14 rfl))) (by decide) (t := .int) (t' := (.array .long)) (by decide) (by decide)))).other W12 (Or.inl ne3)).other W18 (Or.inl ne3)).other W24 (Or.inl ne3)).other W30 (Or.inl ne3)).other W36 (Or.inl ne3)).other W42 (Or.inl ne3)).other W48 (Or.inl ne3)).other W54 (Or.inl ne3)).other W61 (Or.inr (slot_ne (Or.inl (hw _ (own_w 43 rfl))) (Or.inl (hw _ (own_w 26 rfl))) (by decide) (t := .int) (t' := .int) (by decide) (by decide))))
    have f65 := (((((((((((F_sorted.ext E2).other W6 (Or.inr (slot_ne (Or.inl (hw _ (own_w 41 rfl))) (Or.inl (hw _ (own_w 14 rfl))) (by decide) (t := (.array .long)) (t' := (.array .long)) (by decide) (by decide)))).other W12 (Or.inl ne3)).other W18 (Or.inl ne3)).other W24 (Or.inl ne3)).other W30 (Or.inl ne3)).other W36 (Or.inl ne3)).other W42 (Or.inl ne3)).other W48 (Or.inl ne3)).other W54 (Or.inl ne3)).other W61 (Or.inr (slot_ne (Or.inl (hw _ (own_w 41 rfl))) (Or.inl (hw _ (own_w 26 rfl))) (by decide) (t := (.array .long)) (t' := .int) (by decide) (by decide))))
    have f66 := (V54.other W61 (Ne.symm ne3))
    rw [e61]
    exact ⟨rfl, N61, K61, b2o, _, b2, bk2, f62, f63, Fw61, f64, f65, f66⟩
theorem pd_2 : parseMethodDescriptor "(I)V" = some ⟨[.int], none⟩ := by decide +kernel
theorem d1_0 : decode prog_19_method_1_code 0 = .ok (.aload_n 0, 1) := by decide +kernel
theorem d1_1 : decode prog_19_method_1_code 1 = .ok (.iconst 4, 1) := by decide +kernel
theorem d1_2 : decode prog_19_method_1_code 2 = .ok (.invokespecial 5, 3) := by decide +kernel
theorem d1_5 : decode prog_19_method_1_code 5 = .ok (.return_, 1) := by decide +kernel
theorem pn_1 : plainName "com/example/pricewright/pricewright/core/LongSumTable" = true := by first | (simp [plainName, overriddenIn]; done) | decide +kernel
theorem ef_rmI0 (m : MethodId) (a1 : Addr) : entryFrame m #[(.ref a1)] 1 = mkF m 0 #[.val (.ref a1)] [] := by first | (simp [entryFrame, mkF, argsToLocals, Value.category]; done) | rfl
def QrmI0 (Z : State) (a1 : Addr) (h0 : Heap) (n0 : Nat) (v : Option Value) (h : Heap) (L : List Loc) : Prop := v = none ∧ Fr n0 L ∧ Keep h0 h [a1] ∧ ∃ (sa : Addr) (sk : ClassId), n0 ≤ sa ∧ h0.size ≤ sa ∧ Exa Z h a1 "com/example/pricewright/pricewright/core/LongSumTable" ∧ Fld Z h a1 "com/example/pricewright/pricewright/core/LongSumTable" "slots" "[J" (.ref sa) ∧ Fld Z h a1 "com/example/pricewright/pricewright/core/LongSumTable" "shift" "I" (.int (62 : Int32)) ∧ Fld Z h a1 "com/example/pricewright/pricewright/core/LongSumTable" "size" "I" (.int (0 : Int32)) ∧ Fld Z h a1 "com/example/pricewright/pricewright/core/LongSumTable" "sorted" "[J" .null ∧ Arv Z h sa sk .long (8 : Int32) (own_new4.map Value.long) (.long (0 : Int64))
set_option maxRecDepth 65536 in
set_option maxHeartbeats 40000000 in
theorem rmI0 (l : Launch) (Z : State) (a0 : Array Value) (hw : ∀ d ∈ tables_1, d.before a0 Z = true) (ws : List Jvm.Cond) (a1 : Addr) (h0 : Heap) (n0 : Nat) (Z0 : n0 ≤ h0.size) (E : Exa Z h0 a1 "com/example/pricewright/pricewright/core/LongSumTable") (F_slots : Fld Z h0 a1 "com/example/pricewright/pricewright/core/LongSumTable" "slots" "[J" .null) (F_shift : Fld Z h0 a1 "com/example/pricewright/pricewright/core/LongSumTable" "shift" "I" (.int (0 : Int32))) (F_size : Fld Z h0 a1 "com/example/pricewright/pricewright/core/LongSumTable" "size" "I" (.int (0 : Int32))) (F_sorted : Fld Z h0 a1 "com/example/pricewright/pricewright/core/LongSumTable" "sorted" "[J" .null) (ga : n0 ≤ a1) :
    MetFree l (⟨"com/example/pricewright/pricewright/core/LongSumTable", "<init>", "()V"⟩ : MethodName) (head1 (Jvm.Cond.code (⟨"com/example/pricewright/pricewright/core/LongSumTable", "<init>", "()V"⟩ : MethodName) prog_19_method_1_code 1 none :: ws) ({ frames := 3, cells := 1, slots := 8, locals := 43 } : Room)) (fun a U => a = #[(.ref a1)] ∧ Z.Warmed39 U.vm ∧ U.heap = h0) (fun _ _ _ _ _ => True) (fun _ U o U' => ∃ v L, o = .returned v ∧ QrmI0 Z a1 h0 n0 v U'.heap L ∧ FrameEnd U o U' L ({ frames := 3, cells := 1, slots := 8, locals := 43 } : Room).cells ({ frames := 3, cells := 1, slots := 8, locals := 43 } : Room).slots) := by
  refine MetFree.of_bodySF (plainFor_of_name pn_1) hisR ?_
  intro p e s m args below meth c s₁ Bd hml0 hP hK
  obtain ⟨rfl, hZ, hh⟩ := hP
  have hx := Bd.exec
  have hby := Bd.bytes
  have hml : c.maxLocals = 1 := hml0
  have hown : s.vm.findClass "com/example/pricewright/pricewright/core/LongSumTable" = some m.cls := findClass_of_methodNamed Bd.named
  have hnm := (name_of_methodNamed Bd.named Bd.method).1
  have X0 : Stand p l e ({ frames := 3, cells := 1, slots := 8, locals := 43 } : Room) s m #[(.ref a1)] below meth c s₁ [] 0 0 := Stand.of_body Bd
  have e0 : s₁.heap = h0 := by rw [← hh, Bd.state]; rfl
  have N0 := Fr.nil n0
  have pre0 : ∀ t, Steps p.tables e below (s₁.setTop (mkF m 0 #[.val (.ref a1)] [])) t → Steps p.tables e below (s₁.setTop (entryFrame m #[(.ref a1)] 1)) t := fun t k => castTop (ef_rmI0 m a1) k
  obtain ⟨_, _, ⟨T1, Lq1, kq1, nq1⟩, -, X1, ⟨Lc1, hQ1, lq1, yq1, zq1⟩, st1⟩ := X0.specialBack hx (y := (⟨"com/example/pricewright/pricewright/core/LongSumTable", "<init>", "(I)V"⟩ : MethodName)) rfl hown (mvT hZ (hw _ (own_w 6 rfl))) (mvT hZ (hw _ (own_w 7 rfl))) (mvT hZ (hw _ (own_w 8 rfl))) (by decide) (backOf (W := 0) (rmI4 l Z a0 hw [] a1  h0 n0 Z0 E F_slots F_shift F_size F_sorted ga) hZ (hw _ (own_w 8 rfl)) (hw _ (own_w 2 rfl)) (by decide) (by decide)) (g := (mkF m 2 #[.val (.ref a1)] [(.int (4 : Int32)), (.ref a1)])) rfl (by rw [hml]; rfl) (Steps.refl _) (a := a1) (argsL := [(.int (4 : Int32))]) (rest := []) (lenOf pd_2 rfl) rfl (by show 2 * 0 + _ ≤ _; exact Nat.le_of_eq rfl) (hb hby d1_2) (fun _ _ => ⟨rfl, e0, (by decide : 0 + 1 ≤ _), (by decide : 0 + 8 ≤ _)⟩)
  dsimp only [Pt.U, Pt.locs, Pt.cells, Pt.slots] at X1 lq1 yq1 zq1 st1 hQ1
  subst lq1 yq1 zq1
  obtain ⟨rfl, N1q, KC1, u1⟩ := hQ1
  have N1 := Fr.app N0 N1q
  have Z1 : n0 ≤ T1.heap.size := Nat.le_trans Z0 KC1.1
  have K1 : Keep h0 T1.heap [a1] := (Keep.refl h0 [a1]).trans KC1 (allS (Or.inl (own_w 0 rfl)) all0)
  obtain ⟨sa1, sk1, ga1, gk1, EI1, FS1, FH1, FZ1, FQ1, AV1⟩ := id u1
  have net1 : a1 ≠ sa1 := ne_arrV (EI1) (hw _ (own_w 1 rfl)) AV1
  obtain ⟨fs, hr, hrun, hended, hW, hsame⟩ := X1.leave (v := none) (fun _ => rfl) (BodyLoose.notSynchronized Bd)
  refine ⟨_, _, pre0 _ ?_, hrun, hended, _, _, rfl, ?_, ⟨_, rfl⟩, hW, hsame.mono (by decide) (by decide)⟩
  · show Steps p.tables e below (s₁.setTop (mkF m 0 #[.val (.ref a1)] [])) _
    refine XS.aloadN X0.here hx rfl (hb hby d1_0) rfl rfl ?_
    refine XS.iconst X0.here hx rfl (hb hby d1_1) ?_
    refine st1.trans ?_
    show Steps p.tables e below (T1.setTop (mkF m 5 #[.val (.ref a1)] [])) _
    exact X1.returnOut hx Bd.returns (hb hby d1_5) hr
  · show QrmI0 Z a1 h0 n0 _ T1.heap _
    exact ⟨rfl, N1, K1, u1⟩
theorem d8_23 : decode prog_19_method_8_code 23 = .ok (.aload_n 0, 1) := by decide +kernel
theorem d8_24 : decode prog_19_method_8_code 24 = .ok (.getfield 14, 3) := by decide +kernel
theorem d8_27 : decode prog_19_method_8_code 27 = .ok (.iload 4, 2) := by decide +kernel
theorem d8_29 : decode prog_19_method_8_code 29 = .ok (.laload, 1) := by decide +kernel
theorem d8_30 : decode prog_19_method_8_code 30 = .ok (.lload_n 1, 1) := by decide +kernel
theorem d8_31 : decode prog_19_method_8_code 31 = .ok (.lcmp, 1) := by decide +kernel
theorem d8_32 : decode prog_19_method_8_code 32 = .ok (.ifCond .eq 28, 3) := by decide +kernel
theorem d8_35 : decode prog_19_method_8_code 35 = .ok (.aload_n 0, 1) := by decide +kernel
theorem d8_36 : decode prog_19_method_8_code 36 = .ok (.getfield 14, 3) := by decide +kernel
theorem d8_39 : decode prog_19_method_8_code 39 = .ok (.iload 4, 2) := by decide +kernel
theorem d8_41 : decode prog_19_method_8_code 41 = .ok (.laload, 1) := by decide +kernel
theorem d8_42 : decode prog_19_method_8_code 42 = .ok (.ldc2_w 18, 3) := by decide +kernel
theorem d8_45 : decode prog_19_method_8_code 45 = .ok (.lcmp, 1) := by decide +kernel
theorem d8_46 : decode prog_19_method_8_code 46 = .ok (.ifCond .eq 14, 3) := by decide +kernel
theorem d8_49 : decode prog_19_method_8_code 49 = .ok (.iload 4, 2) := by decide +kernel
theorem d8_51 : decode prog_19_method_8_code 51 = .ok (.iconst 2, 1) := by decide +kernel
theorem d8_52 : decode prog_19_method_8_code 52 = .ok (.iadd, 1) := by decide +kernel
theorem d8_53 : decode prog_19_method_8_code 53 = .ok (.iload_n 3, 1) := by decide +kernel
theorem d8_54 : decode prog_19_method_8_code 54 = .ok (.iand, 1) := by decide +kernel
theorem d8_55 : decode prog_19_method_8_code 55 = .ok (.istore 4, 2) := by decide +kernel
theorem d8_57 : decode prog_19_method_8_code 57 = .ok (.goto (-34), 3) := by decide +kernel
set_option maxRecDepth 65536 in
set_option maxHeartbeats 40000000 in
theorem own_lp {p : Program} {l : Launch} {e : Env} {R : Room} {s : State} {m : MethodId} {args : Array Value} {below : List Frame} {meth : Method} {c : Code} {locs : List Loc} {cells slots : Nat} {Z : State} {a0 : Array Value} {h0 : Heap} {a1 : Addr} {q2 : Int64} {a : Addr} {k : ClassId} {arr : List Int64} {n : Nat} (hx : p.tables.exec = Jvm.exec) (hZ : Z.Warmed39 s.vm) (hw : ∀ d ∈ tables_1, d.before a0 Z = true) (hby : c.code = prog_19_method_8_code) (hml : c.maxLocals = 5) (hown : s.vm.findClass "com/example/pricewright/pricewright/core/LongSumTable" = some m.cls) (hn : n = 4 ∨ n = 8) (FS : Fld Z h0 a1 "com/example/pricewright/pricewright/core/LongSumTable" "slots" "[J" (.ref a)) (AV : Arv Z h0 a k .long (Int32.ofNat (2 * n)) (arr.map Value.long) (.long (0 : Int64))) (f : Nat) :
    ∀ (T0 : State) (i : Nat), i < n → own_K arr ((i + f) % n) = own_FREE → Stand p l e R s m args below meth c T0 locs cells slots → T0.heap = h0 → ∃ (T' : State) (i' : Nat), i' < n ∧ own_Idx (own_K arr) n i q2 i' ∧ Stand p l e R s m args below meth c T' locs cells slots ∧ T'.heap = h0 ∧ ∀ target, Steps p.tables e below (T'.setTop (mkF m 60 #[.val (.ref a1), .val (.long q2), .second, .val (.int ((Int32.ofNat (2 * n)) - (1 : Int32))), .val (.int (own_p i'))] [])) target → Steps p.tables e below (T0.setTop (mkF m 23 #[.val (.ref a1), .val (.long q2), .second, .val (.int ((Int32.ofNat (2 * n)) - (1 : Int32))), .val (.int (own_p i))] [])) target := by
  induction f with
  | zero =>
    intro T0 i hi hfr X0 e0
    obtain ⟨T1, X1, e1, st1⟩ := getF X0 hx hZ hown (host := "") (Or.inl (hw _ (own_w 13 rfl))) Via.refl e0 FS (g := (mkF m 24 #[.val (.ref a1), .val (.long q2), .second, .val (.int ((Int32.ofNat (2 * n)) - (1 : Int32))), .val (.int (own_p i))] [(.ref a1)])) rfl rfl (hb hby d8_24)
    obtain ⟨cl2, Ar2, qk2, Sz2, Nn2, Hh2, Gg2⟩ := id (AV)
    have hin3 : ¬ ((own_p i) < 0 ∨ cl2.slots.size ≤ ((own_p i)).toNatClampNeg) := inb_of Sz2 ⟨own_p0 (own_lt8 hi hn), own_plt hi hn⟩
    have hat3 : cl2.slots[((own_p i)).toNatClampNeg]? = some (.long (own_K arr i)) := Has.at Hh2 hin3 (own_ldK arr (own_lt8 hi hn))
    by_cases hc32 : (own_K arr i) = q2
    · refine ⟨T1, i, hi, ⟨0, by rw [Nat.add_zero, Nat.mod_eq_of_lt hi], fun e he => absurd he (Nat.not_lt_zero e), Or.inl hc32⟩, X1, e1, fun target kt => ?_⟩
      show Steps p.tables e below (T0.setTop (mkF m 23 #[.val (.ref a1), .val (.long q2), .second, .val (.int ((Int32.ofNat (2 * n)) - (1 : Int32))), .val (.int (own_p i))] [])) _
      refine XS.aloadN X0.here hx rfl (hb hby d8_23) rfl rfl ?_
      refine st1 _ ?_
      refine XS.iload X1.here hx rfl (hb hby d8_27) rfl ?_
      refine X1.laload hx (j := (own_p i)) (v := (.long (own_K arr i))) (by rw [e1]; exact Ar2.1) (State.isArrayOf_alike hZ.alike Ar2.2.1) Ar2.2.2 hin3 hat3 (g := (mkF m 29 #[.val (.ref a1), .val (.long q2), .second, .val (.int ((Int32.ofNat (2 * n)) - (1 : Int32))), .val (.int (own_p i))] [(.int (own_p i)), (.ref a)])) rfl rfl (hb hby d8_29) _ ?_
      refine XS.lloadN X1.here hx rfl (hb hby d8_30) rfl ?_
      refine XS.lcmp X1.here hx rfl (hb hby d8_31) rfl ?_
      refine XS.ifYes X1.here hx rfl (pc0 := 32) (pc' := 60) rfl (hb hby d8_32) rfl ((if0 _ _).trans (teq (own_lceq hc32)).1) (by decide) (by decide) ?_
      exact kt
    · obtain ⟨T4, X4, e4, st4⟩ := getF X1 hx hZ hown (host := "") (Or.inl (hw _ (own_w 13 rfl))) Via.refl e1 FS (g := (mkF m 36 #[.val (.ref a1), .val (.long q2), .second, .val (.int ((Int32.ofNat (2 * n)) - (1 : Int32))), .val (.int (own_p i))] [(.ref a1)])) rfl rfl (hb hby d8_36)
      obtain ⟨cl5, Ar5, qk5, Sz5, Nn5, Hh5, Gg5⟩ := id (AV)
      have hin6 : ¬ ((own_p i) < 0 ∨ cl5.slots.size ≤ ((own_p i)).toNatClampNeg) := inb_of Sz5 ⟨own_p0 (own_lt8 hi hn), own_plt hi hn⟩
      have hat6 : cl5.slots[((own_p i)).toNatClampNeg]? = some (.long (own_K arr i)) := Has.at Hh5 hin6 (own_ldK arr (own_lt8 hi hn))
      by_cases hc46 : (own_K arr i) = (-9223372036854775808 : Int64)
      · refine ⟨T4, i, hi, ⟨0, by rw [Nat.add_zero, Nat.mod_eq_of_lt hi], fun e he => absurd he (Nat.not_lt_zero e), Or.inr hc46⟩, X4, e4, fun target kt => ?_⟩
        show Steps p.tables e below (T0.setTop (mkF m 23 #[.val (.ref a1), .val (.long q2), .second, .val (.int ((Int32.ofNat (2 * n)) - (1 : Int32))), .val (.int (own_p i))] [])) _
        refine XS.aloadN X0.here hx rfl (hb hby d8_23) rfl rfl ?_
        refine st1 _ ?_
        refine XS.iload X1.here hx rfl (hb hby d8_27) rfl ?_
        refine X1.laload hx (j := (own_p i)) (v := (.long (own_K arr i))) (by rw [e1]; exact Ar2.1) (State.isArrayOf_alike hZ.alike Ar2.2.1) Ar2.2.2 hin3 hat3 (g := (mkF m 29 #[.val (.ref a1), .val (.long q2), .second, .val (.int ((Int32.ofNat (2 * n)) - (1 : Int32))), .val (.int (own_p i))] [(.int (own_p i)), (.ref a)])) rfl rfl (hb hby d8_29) _ ?_
        refine XS.lloadN X1.here hx rfl (hb hby d8_30) rfl ?_
        refine XS.lcmp X1.here hx rfl (hb hby d8_31) rfl ?_
        refine XS.ifNo X1.here hx rfl (hb hby d8_32) rfl ((if0 _ _).trans (feq (own_lcne hc32)).1) ?_
        refine XS.aloadN X1.here hx rfl (hb hby d8_35) rfl rfl ?_
        refine st4 _ ?_
        refine XS.iload X4.here hx rfl (hb hby d8_39) rfl ?_
        refine X4.laload hx (j := (own_p i)) (v := (.long (own_K arr i))) (by rw [e4]; exact Ar5.1) (State.isArrayOf_alike hZ.alike Ar5.2.1) Ar5.2.2 hin6 hat6 (g := (mkF m 41 #[.val (.ref a1), .val (.long q2), .second, .val (.int ((Int32.ofNat (2 * n)) - (1 : Int32))), .val (.int (own_p i))] [(.int (own_p i)), (.ref a)])) rfl rfl (hb hby d8_41) _ ?_
        refine X4.ldc2Long hx hown (mvT hZ (hw _ (own_w 15 rfl))) (g := (mkF m 42 #[.val (.ref a1), .val (.long q2), .second, .val (.int ((Int32.ofNat (2 * n)) - (1 : Int32))), .val (.int (own_p i))] [(.long (own_K arr i))])) rfl (hb hby d8_42) _ ?_
        refine XS.lcmp X4.here hx rfl (hb hby d8_45) rfl ?_
        refine XS.ifYes X4.here hx rfl (pc0 := 46) (pc' := 60) rfl (hb hby d8_46) rfl ((if0 _ _).trans (teq (own_lceq hc46)).1) (by decide) (by decide) ?_
        exact kt
      · have hnx := own_pnext hi hn
        exact absurd (by rw [Nat.add_zero, Nat.mod_eq_of_lt hi] at hfr; exact hfr) hc46
  | succ f ih =>
    intro T0 i hi hfr X0 e0
    obtain ⟨T1, X1, e1, st1⟩ := getF X0 hx hZ hown (host := "") (Or.inl (hw _ (own_w 13 rfl))) Via.refl e0 FS (g := (mkF m 24 #[.val (.ref a1), .val (.long q2), .second, .val (.int ((Int32.ofNat (2 * n)) - (1 : Int32))), .val (.int (own_p i))] [(.ref a1)])) rfl rfl (hb hby d8_24)
    obtain ⟨cl2, Ar2, qk2, Sz2, Nn2, Hh2, Gg2⟩ := id (AV)
    have hin3 : ¬ ((own_p i) < 0 ∨ cl2.slots.size ≤ ((own_p i)).toNatClampNeg) := inb_of Sz2 ⟨own_p0 (own_lt8 hi hn), own_plt hi hn⟩
    have hat3 : cl2.slots[((own_p i)).toNatClampNeg]? = some (.long (own_K arr i)) := Has.at Hh2 hin3 (own_ldK arr (own_lt8 hi hn))
    by_cases hc32 : (own_K arr i) = q2
    · refine ⟨T1, i, hi, ⟨0, by rw [Nat.add_zero, Nat.mod_eq_of_lt hi], fun e he => absurd he (Nat.not_lt_zero e), Or.inl hc32⟩, X1, e1, fun target kt => ?_⟩
      show Steps p.tables e below (T0.setTop (mkF m 23 #[.val (.ref a1), .val (.long q2), .second, .val (.int ((Int32.ofNat (2 * n)) - (1 : Int32))), .val (.int (own_p i))] [])) _
      refine XS.aloadN X0.here hx rfl (hb hby d8_23) rfl rfl ?_
      refine st1 _ ?_
      refine XS.iload X1.here hx rfl (hb hby d8_27) rfl ?_
      refine X1.laload hx (j := (own_p i)) (v := (.long (own_K arr i))) (by rw [e1]; exact Ar2.1) (State.isArrayOf_alike hZ.alike Ar2.2.1) Ar2.2.2 hin3 hat3 (g := (mkF m 29 #[.val (.ref a1), .val (.long q2), .second, .val (.int ((Int32.ofNat (2 * n)) - (1 : Int32))), .val (.int (own_p i))] [(.int (own_p i)), (.ref a)])) rfl rfl (hb hby d8_29) _ ?_
      refine XS.lloadN X1.here hx rfl (hb hby d8_30) rfl ?_
      refine XS.lcmp X1.here hx rfl (hb hby d8_31) rfl ?_
      refine XS.ifYes X1.here hx rfl (pc0 := 32) (pc' := 60) rfl (hb hby d8_32) rfl ((if0 _ _).trans (teq (own_lceq hc32)).1) (by decide) (by decide) ?_
      exact kt
    · obtain ⟨T4, X4, e4, st4⟩ := getF X1 hx hZ hown (host := "") (Or.inl (hw _ (own_w 13 rfl))) Via.refl e1 FS (g := (mkF m 36 #[.val (.ref a1), .val (.long q2), .second, .val (.int ((Int32.ofNat (2 * n)) - (1 : Int32))), .val (.int (own_p i))] [(.ref a1)])) rfl rfl (hb hby d8_36)
      obtain ⟨cl5, Ar5, qk5, Sz5, Nn5, Hh5, Gg5⟩ := id (AV)
      have hin6 : ¬ ((own_p i) < 0 ∨ cl5.slots.size ≤ ((own_p i)).toNatClampNeg) := inb_of Sz5 ⟨own_p0 (own_lt8 hi hn), own_plt hi hn⟩
      have hat6 : cl5.slots[((own_p i)).toNatClampNeg]? = some (.long (own_K arr i)) := Has.at Hh5 hin6 (own_ldK arr (own_lt8 hi hn))
      by_cases hc46 : (own_K arr i) = (-9223372036854775808 : Int64)
      · refine ⟨T4, i, hi, ⟨0, by rw [Nat.add_zero, Nat.mod_eq_of_lt hi], fun e he => absurd he (Nat.not_lt_zero e), Or.inr hc46⟩, X4, e4, fun target kt => ?_⟩
        show Steps p.tables e below (T0.setTop (mkF m 23 #[.val (.ref a1), .val (.long q2), .second, .val (.int ((Int32.ofNat (2 * n)) - (1 : Int32))), .val (.int (own_p i))] [])) _
        refine XS.aloadN X0.here hx rfl (hb hby d8_23) rfl rfl ?_
        refine st1 _ ?_
        refine XS.iload X1.here hx rfl (hb hby d8_27) rfl ?_
        refine X1.laload hx (j := (own_p i)) (v := (.long (own_K arr i))) (by rw [e1]; exact Ar2.1) (State.isArrayOf_alike hZ.alike Ar2.2.1) Ar2.2.2 hin3 hat3 (g := (mkF m 29 #[.val (.ref a1), .val (.long q2), .second, .val (.int ((Int32.ofNat (2 * n)) - (1 : Int32))), .val (.int (own_p i))] [(.int (own_p i)), (.ref a)])) rfl rfl (hb hby d8_29) _ ?_
        refine XS.lloadN X1.here hx rfl (hb hby d8_30) rfl ?_
        refine XS.lcmp X1.here hx rfl (hb hby d8_31) rfl ?_
        refine XS.ifNo X1.here hx rfl (hb hby d8_32) rfl ((if0 _ _).trans (feq (own_lcne hc32)).1) ?_
        refine XS.aloadN X1.here hx rfl (hb hby d8_35) rfl rfl ?_
        refine st4 _ ?_
        refine XS.iload X4.here hx rfl (hb hby d8_39) rfl ?_
        refine X4.laload hx (j := (own_p i)) (v := (.long (own_K arr i))) (by rw [e4]; exact Ar5.1) (State.isArrayOf_alike hZ.alike Ar5.2.1) Ar5.2.2 hin6 hat6 (g := (mkF m 41 #[.val (.ref a1), .val (.long q2), .second, .val (.int ((Int32.ofNat (2 * n)) - (1 : Int32))), .val (.int (own_p i))] [(.int (own_p i)), (.ref a)])) rfl rfl (hb hby d8_41) _ ?_
        refine X4.ldc2Long hx hown (mvT hZ (hw _ (own_w 15 rfl))) (g := (mkF m 42 #[.val (.ref a1), .val (.long q2), .second, .val (.int ((Int32.ofNat (2 * n)) - (1 : Int32))), .val (.int (own_p i))] [(.long (own_K arr i))])) rfl (hb hby d8_42) _ ?_
        refine XS.lcmp X4.here hx rfl (hb hby d8_45) rfl ?_
        refine XS.ifYes X4.here hx rfl (pc0 := 46) (pc' := 60) rfl (hb hby d8_46) rfl ((if0 _ _).trans (teq (own_lceq hc46)).1) (by decide) (by decide) ?_
        exact kt
      · have hnx := own_pnext hi hn
        obtain ⟨T', i', hi', P', X', e', st'⟩ := ih T4 ((i + 1) % n) (Nat.mod_lt _ (own_n0 hn)) (by rw [← own_mod1]; exact hfr) X4 e4
        refine ⟨T', i', hi', own_idx_step hi hc32 hc46 P', X', e', fun target kt => ?_⟩
        refine XS.aloadN X0.here hx rfl (hb hby d8_23) rfl rfl ?_
        refine st1 _ ?_
        refine XS.iload X1.here hx rfl (hb hby d8_27) rfl ?_
        refine X1.laload hx (j := (own_p i)) (v := (.long (own_K arr i))) (by rw [e1]; exact Ar2.1) (State.isArrayOf_alike hZ.alike Ar2.2.1) Ar2.2.2 hin3 hat3 (g := (mkF m 29 #[.val (.ref a1), .val (.long q2), .second, .val (.int ((Int32.ofNat (2 * n)) - (1 : Int32))), .val (.int (own_p i))] [(.int (own_p i)), (.ref a)])) rfl rfl (hb hby d8_29) _ ?_
        refine XS.lloadN X1.here hx rfl (hb hby d8_30) rfl ?_
        refine XS.lcmp X1.here hx rfl (hb hby d8_31) rfl ?_
        refine XS.ifNo X1.here hx rfl (hb hby d8_32) rfl ((if0 _ _).trans (feq (own_lcne hc32)).1) ?_
        refine XS.aloadN X1.here hx rfl (hb hby d8_35) rfl rfl ?_
        refine st4 _ ?_
        refine XS.iload X4.here hx rfl (hb hby d8_39) rfl ?_
        refine X4.laload hx (j := (own_p i)) (v := (.long (own_K arr i))) (by rw [e4]; exact Ar5.1) (State.isArrayOf_alike hZ.alike Ar5.2.1) Ar5.2.2 hin6 hat6 (g := (mkF m 41 #[.val (.ref a1), .val (.long q2), .second, .val (.int ((Int32.ofNat (2 * n)) - (1 : Int32))), .val (.int (own_p i))] [(.int (own_p i)), (.ref a)])) rfl rfl (hb hby d8_41) _ ?_
        refine X4.ldc2Long hx hown (mvT hZ (hw _ (own_w 15 rfl))) (g := (mkF m 42 #[.val (.ref a1), .val (.long q2), .second, .val (.int ((Int32.ofNat (2 * n)) - (1 : Int32))), .val (.int (own_p i))] [(.long (own_K arr i))])) rfl (hb hby d8_42) _ ?_
        refine XS.lcmp X4.here hx rfl (hb hby d8_45) rfl ?_
        refine XS.ifNo X4.here hx rfl (hb hby d8_46) rfl ((if0 _ _).trans (feq (own_lcne hc46)).1) ?_
        refine XS.iload X4.here hx rfl (hb hby d8_49) rfl ?_
        refine XS.iconst X4.here hx rfl (hb hby d8_51) ?_
        refine XS.iadd X4.here hx rfl (hb hby d8_52) rfl ?_
        refine XS.iloadN X4.here hx rfl (hb hby d8_53) rfl ?_
        refine XS.iand X4.here hx rfl (hb hby d8_54) rfl ?_
        show Steps p.tables e below (T4.setTop (mkF m 55 #[.val (.ref a1), .val (.long q2), .second, .val (.int ((Int32.ofNat (2 * n)) - (1 : Int32))), .val (.int (own_p i))] [(.int (((own_p i) + (2 : Int32)) &&& ((Int32.ofNat (2 * n)) - (1 : Int32))))])) _
        rw [hnx]
        show Steps p.tables e below (T4.setTop (mkF m 55 #[.val (.ref a1), .val (.long q2), .second, .val (.int ((Int32.ofNat (2 * n)) - (1 : Int32))), .val (.int (own_p i))] [(.int (own_p ((i + 1) % n)))])) _
        refine XS.istore X4.here hx rfl (hb hby d8_55) rfl (l' := #[.val (.ref a1), .val (.long q2), .second, .val (.int ((Int32.ofNat (2 * n)) - (1 : Int32))), .val (.int (own_p ((i + 1) % n)))]) rfl ?_
        refine XS.goto X4.here hx rfl (pc0 := 57) (pc' := 23) rfl (hb hby d8_57) (by decide) (by decide) ?_
        exact st' target kt
theorem d8_0 : decode prog_19_method_8_code 0 = .ok (.aload_n 0, 1) := by decide +kernel
theorem d8_1 : decode prog_19_method_8_code 1 = .ok (.getfield 14, 3) := by decide +kernel
theorem d8_4 : decode prog_19_method_8_code 4 = .ok (.arraylength, 1) := by decide +kernel
theorem d8_5 : decode prog_19_method_8_code 5 = .ok (.iconst 1, 1) := by decide +kernel
theorem d8_6 : decode prog_19_method_8_code 6 = .ok (.isub, 1) := by decide +kernel
theorem d8_7 : decode prog_19_method_8_code 7 = .ok (.istore_n 3, 1) := by decide +kernel
theorem d8_8 : decode prog_19_method_8_code 8 = .ok (.lload_n 1, 1) := by decide +kernel
theorem d8_9 : decode prog_19_method_8_code 9 = .ok (.ldc2_w 70, 3) := by decide +kernel
theorem d8_12 : decode prog_19_method_8_code 12 = .ok (.lmul, 1) := by decide +kernel
theorem d8_13 : decode prog_19_method_8_code 13 = .ok (.aload_n 0, 1) := by decide +kernel
theorem d8_14 : decode prog_19_method_8_code 14 = .ok (.getfield 24, 3) := by decide +kernel
theorem d8_17 : decode prog_19_method_8_code 17 = .ok (.lushr, 1) := by decide +kernel
theorem d8_18 : decode prog_19_method_8_code 18 = .ok (.l2i, 1) := by decide +kernel
theorem d8_19 : decode prog_19_method_8_code 19 = .ok (.iconst 1, 1) := by decide +kernel
theorem d8_20 : decode prog_19_method_8_code 20 = .ok (.ishl, 1) := by decide +kernel
theorem d8_21 : decode prog_19_method_8_code 21 = .ok (.istore 4, 2) := by decide +kernel
theorem d8_60 : decode prog_19_method_8_code 60 = .ok (.iload 4, 2) := by decide +kernel
theorem d8_62 : decode prog_19_method_8_code 62 = .ok (.ireturn, 1) := by decide +kernel
theorem pn_8 : plainName "com/example/pricewright/pricewright/core/LongSumTable" = true := by first | (simp [plainName, overriddenIn]; done) | decide +kernel
theorem ef_rmX (m : MethodId) (a1 : Addr) (q2 : Int64) : entryFrame m #[(.ref a1), (.long q2)] 5 = mkF m 0 #[.val (.ref a1), .val (.long q2), .second, .unset, .unset] [] := by first | (simp [entryFrame, mkF, argsToLocals, Value.category]; done) | rfl
def QrmX (Z : State) (a1 : Addr) (q2 : Int64) (a : Addr) (k : ClassId) (arr : List Int64) (n : Nat) (sh : Int32) (h0 : Heap) (n0 : Nat) (v : Option Value) (h : Heap) (L : List Loc) : Prop := ∃ z : Int32, (∃ i, i < n ∧ z = own_p i ∧ own_Idx (own_K arr) n (own_hs n q2) q2 i) ∧ v = some (.int z) ∧ Fr n0 L ∧ h = h0
set_option maxRecDepth 65536 in
set_option maxHeartbeats 40000000 in
theorem rmX (l : Launch) (Z : State) (a0 : Array Value) (hw : ∀ d ∈ tables_1, d.before a0 Z = true) (ws : List Jvm.Cond) (a1 : Addr) (q2 : Int64) (a : Addr) (k : ClassId) (arr : List Int64) (n : Nat) (sh : Int32) (h0 : Heap) (n0 : Nat) (Z0 : n0 ≤ h0.size) (hns : (n = 4 ∧ sh = 62) ∨ (n = 8 ∧ sh = 61)) (FS : Fld Z h0 a1 "com/example/pricewright/pricewright/core/LongSumTable" "slots" "[J" (.ref a)) (FH : Fld Z h0 a1 "com/example/pricewright/pricewright/core/LongSumTable" "shift" "I" (.int sh)) (AV : Arv Z h0 a k .long (Int32.ofNat (2 * n)) (arr.map Value.long) (.long (0 : Int64))) (hfr : ∃ j, j < n ∧ own_K arr j = own_FREE) :
    MetFree l (⟨"com/example/pricewright/pricewright/core/LongSumTable", "index", "(J)I"⟩ : MethodName) (head1 (Jvm.Cond.code (⟨"com/example/pricewright/pricewright/core/LongSumTable", "index", "(J)I"⟩ : MethodName) prog_19_method_8_code 5 (some .int) :: ws) ({ frames := 0, cells := 0, slots := 0, locals := 0 } : Room)) (fun a U => a = #[(.ref a1), (.long q2)] ∧ Z.Warmed39 U.vm ∧ U.heap = h0) (fun _ _ _ _ _ => True) (fun _ U o U' => ∃ v L, o = .returned v ∧ QrmX Z a1 q2 a k arr n sh h0 n0 v U'.heap L ∧ FrameEnd U o U' L ({ frames := 0, cells := 0, slots := 0, locals := 0 } : Room).cells ({ frames := 0, cells := 0, slots := 0, locals := 0 } : Room).slots) := by
  refine MetFree.of_bodySF (plainFor_of_name pn_8) hisR ?_
  intro p e s m args below meth c s₁ Bd hml0 hP hK
  obtain ⟨rfl, hZ, hh⟩ := hP
  have hx := Bd.exec
  have hby := Bd.bytes
  have hml : c.maxLocals = 5 := hml0
  have hown : s.vm.findClass "com/example/pricewright/pricewright/core/LongSumTable" = some m.cls := findClass_of_methodNamed Bd.named
  have hnm := (name_of_methodNamed Bd.named Bd.method).1
  have X0 : Stand p l e ({ frames := 0, cells := 0, slots := 0, locals := 0 } : Room) s m #[(.ref a1), (.long q2)] below meth c s₁ [] 0 0 := Stand.of_body Bd
  have e0 : s₁.heap = h0 := by rw [← hh, Bd.state]; rfl
  have N0 := Fr.nil n0
  have pre0 : ∀ t, Steps p.tables e below (s₁.setTop (mkF m 0 #[.val (.ref a1), .val (.long q2), .second, .unset, .unset] [])) t → Steps p.tables e below (s₁.setTop (entryFrame m #[(.ref a1), (.long q2)] 5)) t := fun t k => castTop (ef_rmX m a1 q2) k
  have hn := own_hn hns
  obtain ⟨T1, X1, e1, st1⟩ := getF X0 hx hZ hown (host := "") (Or.inl (hw _ (own_w 13 rfl))) Via.refl e0 FS (g := (mkF m 1 #[.val (.ref a1), .val (.long q2), .second, .unset, .unset] [(.ref a1)])) rfl rfl (hb hby d8_1)
  obtain ⟨cl2, Ar2, qk2, Sz2, Nn2, Hh2, Gg2⟩ := id (AV)
  obtain ⟨T3, X3, e3, st3⟩ := getF X1 hx hZ hown (host := "") (Or.inl (hw _ (own_w 25 rfl))) Via.refl e1 FH (g := (mkF m 14 #[.val (.ref a1), .val (.long q2), .second, .val (.int ((Int32.ofNat (2 * n)) - (1 : Int32))), .unset] [(.ref a1), (.long (q2 * (-7046029254386353131 : Int64)))])) rfl rfl (hb hby d8_14)
  have hh := own_hash q2 hns
  obtain ⟨f, hf⟩ := own_far hfr (own_hslt q2 hn)
  obtain ⟨T4, i, hi, P, X4, e4, st4⟩ := own_lp hx hZ hw hby hml hown hn FS AV f T3 _ (own_hslt q2 hn) hf X3 e3
  obtain ⟨fs, hr, hrun, hended, hW, hsame⟩ := X4.leave (v := some (.int (own_p i))) (fun h => by rw [Bd.returns] at h; cases h) (BodyLoose.notSynchronized Bd)
  refine ⟨_, _, pre0 _ ?_, hrun, hended, _, _, rfl, ?_, ⟨_, rfl⟩, hW, hsame.mono (by decide) (by decide)⟩
  · show Steps p.tables e below (s₁.setTop (mkF m 0 #[.val (.ref a1), .val (.long q2), .second, .unset, .unset] [])) _
    refine XS.aloadN X0.here hx rfl (hb hby d8_0) rfl rfl ?_
    refine st1 _ ?_
    refine X1.arraylength hx (by rw [e1]; exact Ar2.1) (State.isArrayOf_alike hZ.alike Ar2.2.1) (g := (mkF m 4 #[.val (.ref a1), .val (.long q2), .second, .unset, .unset] [(.ref a)])) rfl rfl (hb hby d8_4) _ ?_
    rw [len_of Sz2 Nn2]
    show Steps p.tables e below (T1.setTop (mkF m 5 #[.val (.ref a1), .val (.long q2), .second, .unset, .unset] [(.int (Int32.ofNat (2 * n)))])) _
    refine XS.iconst X1.here hx rfl (hb hby d8_5) ?_
    refine XS.isub X1.here hx rfl (hb hby d8_6) rfl ?_
    refine XS.istoreN X1.here hx rfl (hb hby d8_7) rfl (l' := #[.val (.ref a1), .val (.long q2), .second, .val (.int ((Int32.ofNat (2 * n)) - (1 : Int32))), .unset]) rfl ?_
    refine XS.lloadN X1.here hx rfl (hb hby d8_8) rfl ?_
    refine X1.ldc2Long hx hown (mvT hZ (hw _ (own_w 39 rfl))) (g := (mkF m 9 #[.val (.ref a1), .val (.long q2), .second, .val (.int ((Int32.ofNat (2 * n)) - (1 : Int32))), .unset] [(.long q2)])) rfl (hb hby d8_9) _ ?_
    refine XS.lmul X1.here hx rfl (hb hby d8_12) rfl ?_
    refine XS.aloadN X1.here hx rfl (hb hby d8_13) rfl rfl ?_
    refine st3 _ ?_
    refine XS.lushr X3.here hx rfl (hb hby d8_17) rfl ?_
    refine XS.l2i X3.here hx rfl (hb hby d8_18) rfl ?_
    refine XS.iconst X3.here hx rfl (hb hby d8_19) ?_
    refine XS.ishl X3.here hx rfl (hb hby d8_20) rfl ?_
    show Steps p.tables e below (T3.setTop (mkF m 21 #[.val (.ref a1), .val (.long q2), .second, .val (.int ((Int32.ofNat (2 * n)) - (1 : Int32))), .unset] [(.int (((((q2 * (-7046029254386353131 : Int64)).toUInt64 >>> (sh &&& 0x3f).toInt64.toUInt64).toInt64).toInt32) <<< ((1 : Int32) &&& 31)))])) _
    rw [hh]
    show Steps p.tables e below (T3.setTop (mkF m 21 #[.val (.ref a1), .val (.long q2), .second, .val (.int ((Int32.ofNat (2 * n)) - (1 : Int32))), .unset] [(.int (own_p (own_hs n q2)))])) _
    refine XS.istore X3.here hx rfl (hb hby d8_21) rfl (l' := #[.val (.ref a1), .val (.long q2), .second, .val (.int ((Int32.ofNat (2 * n)) - (1 : Int32))), .val (.int (own_p (own_hs n q2)))]) rfl ?_
    refine st4 _ ?_
    refine XS.iload X4.here hx rfl (hb hby d8_60) rfl ?_
    show Steps p.tables e below (T4.setTop (mkF m 62 #[.val (.ref a1), .val (.long q2), .second, .val (.int ((Int32.ofNat (2 * n)) - (1 : Int32))), .val (.int (own_p i))] [(.int (own_p i))])) _
    exact retI X4 hx Bd.returns (hb hby d8_62) hr
  · show QrmX Z a1 q2 a k arr n sh h0 n0 _ T4.heap _
    exact ⟨_, ⟨i, hi, rfl, P⟩, rfl, N0, e4⟩
theorem d13_0 : decode prog_19_method_4_code 0 = .ok (.aload_n 0, 1) := by decide +kernel
theorem d13_1 : decode prog_19_method_4_code 1 = .ok (.lload_n 1, 1) := by decide +kernel
theorem d13_2 : decode prog_19_method_4_code 2 = .ok (.invokevirtual 32, 3) := by decide +kernel
theorem d13_5 : decode prog_19_method_4_code 5 = .ok (.istore_n 3, 1) := by decide +kernel
theorem d13_6 : decode prog_19_method_4_code 6 = .ok (.aload_n 0, 1) := by decide +kernel
theorem d13_7 : decode prog_19_method_4_code 7 = .ok (.getfield 14, 3) := by decide +kernel
theorem d13_10 : decode prog_19_method_4_code 10 = .ok (.iload_n 3, 1) := by decide +kernel
theorem d13_11 : decode prog_19_method_4_code 11 = .ok (.laload, 1) := by decide +kernel
theorem d13_12 : decode prog_19_method_4_code 12 = .ok (.lload_n 1, 1) := by decide +kernel
theorem d13_13 : decode prog_19_method_4_code 13 = .ok (.lcmp, 1) := by decide +kernel
theorem d13_14 : decode prog_19_method_4_code 14 = .ok (.ifCond .ne 14, 3) := by decide +kernel
theorem d13_17 : decode prog_19_method_4_code 17 = .ok (.aload_n 0, 1) := by decide +kernel
theorem d13_18 : decode prog_19_method_4_code 18 = .ok (.getfield 14, 3) := by decide +kernel
theorem d13_21 : decode prog_19_method_4_code 21 = .ok (.iload_n 3, 1) := by decide +kernel
theorem d13_22 : decode prog_19_method_4_code 22 = .ok (.iconst 1, 1) := by decide +kernel
theorem d13_23 : decode prog_19_method_4_code 23 = .ok (.iadd, 1) := by decide +kernel
theorem d13_24 : decode prog_19_method_4_code 24 = .ok (.laload, 1) := by decide +kernel
theorem d13_25 : decode prog_19_method_4_code 25 = .ok (.goto 4, 3) := by decide +kernel
theorem d13_28 : decode prog_19_method_4_code 28 = .ok (.lconst 0, 1) := by decide +kernel
theorem d13_29 : decode prog_19_method_4_code 29 = .ok (.lreturn, 1) := by decide +kernel
theorem pn_13 : plainName "com/example/pricewright/pricewright/core/LongSumTable" = true := by first | (simp [plainName, overriddenIn]; done) | decide +kernel
theorem ef_rmG (m : MethodId) (a1 : Addr) (q2 : Int64) : entryFrame m #[(.ref a1), (.long q2)] 4 = mkF m 0 #[.val (.ref a1), .val (.long q2), .second, .unset] [] := by first | (simp [entryFrame, mkF, argsToLocals, Value.category]; done) | rfl
def QrmG (Z : State) (a1 : Addr) (q2 : Int64) (a : Addr) (k : ClassId) (arr : List Int64) (n : Nat) (sh : Int32) (h0 : Heap) (n0 : Nat) (v : Option Value) (h : Heap) (L : List Loc) : Prop := ∃ z : Int64, (∃ i, i < n ∧ own_Idx (own_K arr) n (own_hs n q2) q2 i ∧ z = if own_K arr i = q2 then own_W arr i else 0) ∧ v = some (.long z) ∧ Fr n0 L ∧ h = h0
set_option maxRecDepth 65536 in
set_option maxHeartbeats 40000000 in
theorem rmG (l : Launch) (Z : State) (a0 : Array Value) (hw : ∀ d ∈ tables_1, d.before a0 Z = true) (ws : List Jvm.Cond) (a1 : Addr) (q2 : Int64) (a : Addr) (k : ClassId) (arr : List Int64) (n : Nat) (sh : Int32) (h0 : Heap) (n0 : Nat) (Z0 : n0 ≤ h0.size) (hns : (n = 4 ∧ sh = 62) ∨ (n = 8 ∧ sh = 61)) (E : Exa Z h0 a1 "com/example/pricewright/pricewright/core/LongSumTable") (FS : Fld Z h0 a1 "com/example/pricewright/pricewright/core/LongSumTable" "slots" "[J" (.ref a)) (FH : Fld Z h0 a1 "com/example/pricewright/pricewright/core/LongSumTable" "shift" "I" (.int sh)) (AV : Arv Z h0 a k .long (Int32.ofNat (2 * n)) (arr.map Value.long) (.long (0 : Int64))) (hfr : ∃ j, j < n ∧ own_K arr j = own_FREE) :
    MetFree l (⟨"com/example/pricewright/pricewright/core/LongSumTable", "get", "(J)J"⟩ : MethodName) (head1 (Jvm.Cond.code (⟨"com/example/pricewright/pricewright/core/LongSumTable", "get", "(J)J"⟩ : MethodName) prog_19_method_4_code 4 (some .long) :: ws) ({ frames := 1, cells := 0, slots := 0, locals := 16 } : Room)) (fun a U => a = #[(.ref a1), (.long q2)] ∧ Z.Warmed39 U.vm ∧ U.heap = h0) (fun _ _ _ _ _ => True) (fun _ U o U' => ∃ v L, o = .returned v ∧ QrmG Z a1 q2 a k arr n sh h0 n0 v U'.heap L ∧ FrameEnd U o U' L ({ frames := 1, cells := 0, slots := 0, locals := 16 } : Room).cells ({ frames := 1, cells := 0, slots := 0, locals := 16 } : Room).slots) := by
  refine MetFree.of_bodySF (plainFor_of_name pn_13) hisR ?_
  intro p e s m args below meth c s₁ Bd hml0 hP hK
  obtain ⟨rfl, hZ, hh⟩ := hP
  have hx := Bd.exec
  have hby := Bd.bytes
  have hml : c.maxLocals = 4 := hml0
  have hown : s.vm.findClass "com/example/pricewright/pricewright/core/LongSumTable" = some m.cls := findClass_of_methodNamed Bd.named
  have hnm := (name_of_methodNamed Bd.named Bd.method).1
  have X0 : Stand p l e ({ frames := 1, cells := 0, slots := 0, locals := 16 } : Room) s m #[(.ref a1), (.long q2)] below meth c s₁ [] 0 0 := Stand.of_body Bd
  have e0 : s₁.heap = h0 := by rw [← hh, Bd.state]; rfl
  have N0 := Fr.nil n0
  have pre0 : ∀ t, Steps p.tables e below (s₁.setTop (mkF m 0 #[.val (.ref a1), .val (.long q2), .second, .unset] [])) t → Steps p.tables e below (s₁.setTop (entryFrame m #[(.ref a1), (.long q2)] 4)) t := fun t k => castTop (ef_rmG m a1 q2) k
  have hn := own_hn hns
  obtain ⟨cq1, qq1, qq1'⟩ := E.cell
  obtain ⟨_, _, ⟨T1, Lq1, kq1, nq1⟩, -, X1, ⟨Lc1, hQ1, lq1, yq1, zq1⟩, st1⟩ := X0.privateBack hx (y := (⟨"com/example/pricewright/pricewright/core/LongSumTable", "index", "(J)I"⟩ : MethodName)) hown (mvT hZ (hw _ (own_w 35 rfl))) (mvT hZ (hw _ (own_w 36 rfl))) (own_selpriv (mvT hZ (hw _ (own_w 1 rfl))) (Cond.privateMethod_at (mvP hZ (hw _ (own_w 37 rfl)) (args := #[]))) (mvT hZ (hw _ (own_w 36 rfl))) (by decide)) (Cond.privateMethod_at (mvP hZ (hw _ (own_w 37 rfl)) (args := #[]))) (mvT hZ (hw _ (own_w 38 rfl))) (by decide) (backOf (W := 0) (rmX l Z a0 hw [] a1 q2 a k (arr) n sh h0 n0 Z0 hns FS FH AV hfr) hZ (hw _ (own_w 38 rfl)) (hw _ (own_w 2 rfl)) (by decide) (by decide)) (g := (mkF m 2 #[.val (.ref a1), .val (.long q2), .second, .unset] [(.long q2), (.ref a1)])) rfl (by rw [hml]; rfl) (Steps.refl _) (a := a1) (by rw [e0]; exact qq1) qq1' (argsL := [(.long q2)]) (rest := []) (lenOf pd_1 rfl) rfl (by show 2 * 0 + _ ≤ _; exact Nat.le_of_eq rfl) (hb hby d13_2) (fun _ _ => ⟨rfl, e0, (by decide : 0 + 0 ≤ _), (by decide : 0 + 0 ≤ _)⟩)
  dsimp only [Pt.U, Pt.locs, Pt.cells, Pt.slots] at X1 lq1 yq1 zq1 st1 hQ1
  subst lq1 yq1 zq1
  obtain ⟨r1, hr1, rfl, N1q, e1⟩ := hQ1
  have N1 := Fr.app N0 N1q
  obtain ⟨i1, hi1, rfl, P1⟩ := hr1
  obtain ⟨T2, X2, e2, st2⟩ := getF X1 hx hZ hown (host := "") (Or.inl (hw _ (own_w 13 rfl))) Via.refl e1 FS (g := (mkF m 7 #[.val (.ref a1), .val (.long q2), .second, .val (.int (own_p i1))] [(.ref a1)])) rfl rfl (hb hby d13_7)
  obtain ⟨cl3, Ar3, qk3, Sz3, Nn3, Hh3, Gg3⟩ := id (AV)
  have hin4 : ¬ ((own_p i1) < 0 ∨ cl3.slots.size ≤ ((own_p i1)).toNatClampNeg) := inb_of Sz3 ⟨own_p0 (own_lt8 hi1 hn), own_plt hi1 hn⟩
  have hat4 : cl3.slots[((own_p i1)).toNatClampNeg]? = some (.long (own_K arr i1)) := Has.at Hh3 hin4 (own_ldK arr (own_lt8 hi1 hn))
  by_cases hc14 : (own_K arr i1) = q2
  · obtain ⟨T5, X5, e5, st5⟩ := getF X2 hx hZ hown (host := "") (Or.inl (hw _ (own_w 13 rfl))) Via.refl e2 FS (g := (mkF m 18 #[.val (.ref a1), .val (.long q2), .second, .val (.int (own_p i1))] [(.ref a1)])) rfl rfl (hb hby d13_18)
    obtain ⟨cl6, Ar6, qk6, Sz6, Nn6, Hh6, Gg6⟩ := id (AV)
    have hin7 : ¬ (((own_p i1) + (1 : Int32)) < 0 ∨ cl6.slots.size ≤ (((own_p i1) + (1 : Int32))).toNatClampNeg) := inb_of Sz6 ⟨own_q0 (own_lt8 hi1 hn), own_qlt hi1 hn⟩
    have hat7 : cl6.slots[(((own_p i1) + (1 : Int32))).toNatClampNeg]? = some (.long (own_W arr i1)) := Has.at Hh6 hin7 (own_ldW arr (own_lt8 hi1 hn))
    obtain ⟨fs, hr, hrun, hended, hW, hsame⟩ := X5.leave (v := some (.long (own_W arr i1))) (fun h => by rw [Bd.returns] at h; cases h) (BodyLoose.notSynchronized Bd)
    refine ⟨_, _, pre0 _ ?_, hrun, hended, _, _, rfl, ?_, ⟨_, rfl⟩, hW, hsame.mono (by decide) (by decide)⟩
    · show Steps p.tables e below (s₁.setTop (mkF m 0 #[.val (.ref a1), .val (.long q2), .second, .unset] [])) _
      refine XS.aloadN X0.here hx rfl (hb hby d13_0) rfl rfl ?_
      refine XS.lloadN X0.here hx rfl (hb hby d13_1) rfl ?_
      refine st1.trans ?_
      refine XS.istoreN X1.here hx rfl (hb hby d13_5) rfl (l' := #[.val (.ref a1), .val (.long q2), .second, .val (.int (own_p i1))]) rfl ?_
      refine XS.aloadN X1.here hx rfl (hb hby d13_6) rfl rfl ?_
      refine st2 _ ?_
      refine XS.iloadN X2.here hx rfl (hb hby d13_10) rfl ?_
      refine X2.laload hx (j := (own_p i1)) (v := (.long (own_K arr i1))) (by rw [e2]; exact Ar3.1) (State.isArrayOf_alike hZ.alike Ar3.2.1) Ar3.2.2 hin4 hat4 (g := (mkF m 11 #[.val (.ref a1), .val (.long q2), .second, .val (.int (own_p i1))] [(.int (own_p i1)), (.ref a)])) rfl rfl (hb hby d13_11) _ ?_
      refine XS.lloadN X2.here hx rfl (hb hby d13_12) rfl ?_
      refine XS.lcmp X2.here hx rfl (hb hby d13_13) rfl ?_
      refine XS.ifNo X2.here hx rfl (hb hby d13_14) rfl ((if0 _ _).trans (teq (own_lceq hc14)).2) ?_
      refine XS.aloadN X2.here hx rfl (hb hby d13_17) rfl rfl ?_
      refine st5 _ ?_
      refine XS.iloadN X5.here hx rfl (hb hby d13_21) rfl ?_
      refine XS.iconst X5.here hx rfl (hb hby d13_22) ?_
      refine XS.iadd X5.here hx rfl (hb hby d13_23) rfl ?_
      refine X5.laload hx (j := ((own_p i1) + (1 : Int32))) (v := (.long (own_W arr i1))) (by rw [e5]; exact Ar6.1) (State.isArrayOf_alike hZ.alike Ar6.2.1) Ar6.2.2 hin7 hat7 (g := (mkF m 24 #[.val (.ref a1), .val (.long q2), .second, .val (.int (own_p i1))] [(.int ((own_p i1) + (1 : Int32))), (.ref a)])) rfl rfl (hb hby d13_24) _ ?_
      refine XS.goto X5.here hx rfl (pc0 := 25) (pc' := 29) rfl (hb hby d13_25) (by decide) (by decide) ?_
      show Steps p.tables e below (T5.setTop (mkF m 29 #[.val (.ref a1), .val (.long q2), .second, .val (.int (own_p i1))] [(.long (own_W arr i1))])) _
      exact X5.lreturnOut hx Bd.returns (hb hby d13_29) hr
    · show QrmG Z a1 q2 a k arr n sh h0 n0 _ T5.heap _
      exact ⟨_, ⟨i1, hi1, P1, by simp [hc14]⟩, rfl, N1, e5⟩
  · obtain ⟨fs, hr, hrun, hended, hW, hsame⟩ := X2.leave (v := some (.long (0 : Int64))) (fun h => by rw [Bd.returns] at h; cases h) (BodyLoose.notSynchronized Bd)
    refine ⟨_, _, pre0 _ ?_, hrun, hended, _, _, rfl, ?_, ⟨_, rfl⟩, hW, hsame.mono (by decide) (by decide)⟩
    · show Steps p.tables e below (s₁.setTop (mkF m 0 #[.val (.ref a1), .val (.long q2), .second, .unset] [])) _
      refine XS.aloadN X0.here hx rfl (hb hby d13_0) rfl rfl ?_
      refine XS.lloadN X0.here hx rfl (hb hby d13_1) rfl ?_
      refine st1.trans ?_
      refine XS.istoreN X1.here hx rfl (hb hby d13_5) rfl (l' := #[.val (.ref a1), .val (.long q2), .second, .val (.int (own_p i1))]) rfl ?_
      refine XS.aloadN X1.here hx rfl (hb hby d13_6) rfl rfl ?_
      refine st2 _ ?_
      refine XS.iloadN X2.here hx rfl (hb hby d13_10) rfl ?_
      refine X2.laload hx (j := (own_p i1)) (v := (.long (own_K arr i1))) (by rw [e2]; exact Ar3.1) (State.isArrayOf_alike hZ.alike Ar3.2.1) Ar3.2.2 hin4 hat4 (g := (mkF m 11 #[.val (.ref a1), .val (.long q2), .second, .val (.int (own_p i1))] [(.int (own_p i1)), (.ref a)])) rfl rfl (hb hby d13_11) _ ?_
      refine XS.lloadN X2.here hx rfl (hb hby d13_12) rfl ?_
      refine XS.lcmp X2.here hx rfl (hb hby d13_13) rfl ?_
      refine XS.ifYes X2.here hx rfl (pc0 := 14) (pc' := 28) rfl (hb hby d13_14) rfl ((if0 _ _).trans (feq (own_lcne hc14)).2) (by decide) (by decide) ?_
      refine XS.lconst X2.here hx rfl (hb hby d13_28) ?_
      show Steps p.tables e below (T2.setTop (mkF m 29 #[.val (.ref a1), .val (.long q2), .second, .val (.int (own_p i1))] [(.long (0 : Int64))])) _
      exact X2.lreturnOut hx Bd.returns (hb hby d13_29) hr
    · show QrmG Z a1 q2 a k arr n sh h0 n0 _ T2.heap _
      exact ⟨_, ⟨i1, hi1, P1, by simp [hc14]⟩, rfl, N1, e2⟩
theorem d12_0 : decode prog_19_method_10_code 0 = .ok (.aload_n 0, 1) := by decide +kernel
theorem d12_1 : decode prog_19_method_10_code 1 = .ok (.lload_n 1, 1) := by decide +kernel
theorem d12_2 : decode prog_19_method_10_code 2 = .ok (.invokevirtual 32, 3) := by decide +kernel
theorem d12_5 : decode prog_19_method_10_code 5 = .ok (.istore 5, 2) := by decide +kernel
theorem d12_7 : decode prog_19_method_10_code 7 = .ok (.aload_n 0, 1) := by decide +kernel
theorem d12_8 : decode prog_19_method_10_code 8 = .ok (.getfield 14, 3) := by decide +kernel
theorem d12_11 : decode prog_19_method_10_code 11 = .ok (.iload 5, 2) := by decide +kernel
theorem d12_13 : decode prog_19_method_10_code 13 = .ok (.lload_n 1, 1) := by decide +kernel
theorem d12_14 : decode prog_19_method_10_code 14 = .ok (.lastore, 1) := by decide +kernel
theorem d12_15 : decode prog_19_method_10_code 15 = .ok (.aload_n 0, 1) := by decide +kernel
theorem d12_16 : decode prog_19_method_10_code 16 = .ok (.getfield 14, 3) := by decide +kernel
theorem d12_19 : decode prog_19_method_10_code 19 = .ok (.iload 5, 2) := by decide +kernel
theorem d12_21 : decode prog_19_method_10_code 21 = .ok (.iconst 1, 1) := by decide +kernel
theorem d12_22 : decode prog_19_method_10_code 22 = .ok (.iadd, 1) := by decide +kernel
theorem d12_23 : decode prog_19_method_10_code 23 = .ok (.lload_n 3, 1) := by decide +kernel
theorem d12_24 : decode prog_19_method_10_code 24 = .ok (.lastore, 1) := by decide +kernel
theorem d12_25 : decode prog_19_method_10_code 25 = .ok (.return_, 1) := by decide +kernel
theorem pn_12 : plainName "com/example/pricewright/pricewright/core/LongSumTable" = true := by first | (simp [plainName, overriddenIn]; done) | decide +kernel
theorem ef_rmP (m : MethodId) (a1 : Addr) (q2 : Int64) (q3 : Int64) : entryFrame m #[(.ref a1), (.long q2), (.long q3)] 6 = mkF m 0 #[.val (.ref a1), .val (.long q2), .second, .val (.long q3), .second, .unset] [] := by first | (simp [entryFrame, mkF, argsToLocals, Value.category]; done) | rfl
def QrmP (Z : State) (a1 : Addr) (q2 : Int64) (q3 : Int64) (a : Addr) (k : ClassId) (arr : List Int64) (n : Nat) (sh : Int32) (h0 : Heap) (n0 : Nat) (v : Option Value) (h : Heap) (L : List Loc) : Prop := v = none ∧ Fr n0 L ∧ Keep h0 h [a] ∧ ∃ i, i < n ∧ own_Idx (own_K arr) n (own_hs n q2) q2 i ∧ Arv Z h a k .long (Int32.ofNat (2 * n)) (((arr.set (2 * i) q2).set (2 * i + 1) q3).map Value.long) (.long (0 : Int64))
set_option maxRecDepth 65536 in
set_option maxHeartbeats 40000000 in
theorem rmP (l : Launch) (Z : State) (a0 : Array Value) (hw : ∀ d ∈ tables_1, d.before a0 Z = true) (ws : List Jvm.Cond) (a1 : Addr) (q2 : Int64) (q3 : Int64) (a : Addr) (k : ClassId) (arr : List Int64) (n : Nat) (sh : Int32) (h0 : Heap) (n0 : Nat) (Z0 : n0 ≤ h0.size) (hns : (n = 4 ∧ sh = 62) ∨ (n = 8 ∧ sh = 61)) (E : Exa Z h0 a1 "com/example/pricewright/pricewright/core/LongSumTable") (FS : Fld Z h0 a1 "com/example/pricewright/pricewright/core/LongSumTable" "slots" "[J" (.ref a)) (FH : Fld Z h0 a1 "com/example/pricewright/pricewright/core/LongSumTable" "shift" "I" (.int sh)) (AV : Arv Z h0 a k .long (Int32.ofNat (2 * n)) (arr.map Value.long) (.long (0 : Int64))) (hfr : ∃ j, j < n ∧ own_K arr j = own_FREE) (hlen : arr.length = 2 * n) (hne : a1 ≠ a) (ga : n0 ≤ a) :
    MetFree l (⟨"com/example/pricewright/pricewright/core/LongSumTable", "put", "(JJ)V"⟩ : MethodName) (head1 (Jvm.Cond.code (⟨"com/example/pricewright/pricewright/core/LongSumTable", "put", "(JJ)V"⟩ : MethodName) prog_19_method_10_code 6 none :: ws) ({ frames := 1, cells := 0, slots := 0, locals := 16 } : Room)) (fun a U => a = #[(.ref a1), (.long q2), (.long q3)] ∧ Z.Warmed39 U.vm ∧ U.heap = h0) (fun _ _ _ _ _ => True) (fun _ U o U' => ∃ v L, o = .returned v ∧ QrmP Z a1 q2 q3 a k arr n sh h0 n0 v U'.heap L ∧ FrameEnd U o U' L ({ frames := 1, cells := 0, slots := 0, locals := 16 } : Room).cells ({ frames := 1, cells := 0, slots := 0, locals := 16 } : Room).slots) := by
  refine MetFree.of_bodySF (plainFor_of_name pn_12) hisR ?_
  intro p e s m args below meth c s₁ Bd hml0 hP hK
  obtain ⟨rfl, hZ, hh⟩ := hP
  have hx := Bd.exec
  have hby := Bd.bytes
  have hml : c.maxLocals = 6 := hml0
  have hown : s.vm.findClass "com/example/pricewright/pricewright/core/LongSumTable" = some m.cls := findClass_of_methodNamed Bd.named
  have hnm := (name_of_methodNamed Bd.named Bd.method).1
  have X0 : Stand p l e ({ frames := 1, cells := 0, slots := 0, locals := 16 } : Room) s m #[(.ref a1), (.long q2), (.long q3)] below meth c s₁ [] 0 0 := Stand.of_body Bd
  have e0 : s₁.heap = h0 := by rw [← hh, Bd.state]; rfl
  have N0 := Fr.nil n0
  have pre0 : ∀ t, Steps p.tables e below (s₁.setTop (mkF m 0 #[.val (.ref a1), .val (.long q2), .second, .val (.long q3), .second, .unset] [])) t → Steps p.tables e below (s₁.setTop (entryFrame m #[(.ref a1), (.long q2), (.long q3)] 6)) t := fun t k => castTop (ef_rmP m a1 q2 q3) k
  have hn := own_hn hns
  obtain ⟨cq1, qq1, qq1'⟩ := E.cell
  obtain ⟨_, _, ⟨T1, Lq1, kq1, nq1⟩, -, X1, ⟨Lc1, hQ1, lq1, yq1, zq1⟩, st1⟩ := X0.privateBack hx (y := (⟨"com/example/pricewright/pricewright/core/LongSumTable", "index", "(J)I"⟩ : MethodName)) hown (mvT hZ (hw _ (own_w 35 rfl))) (mvT hZ (hw _ (own_w 36 rfl))) (own_selpriv (mvT hZ (hw _ (own_w 1 rfl))) (Cond.privateMethod_at (mvP hZ (hw _ (own_w 37 rfl)) (args := #[]))) (mvT hZ (hw _ (own_w 36 rfl))) (by decide)) (Cond.privateMethod_at (mvP hZ (hw _ (own_w 37 rfl)) (args := #[]))) (mvT hZ (hw _ (own_w 38 rfl))) (by decide) (backOf (W := 0) (rmX l Z a0 hw [] a1 q2 a k (arr) n sh h0 n0 Z0 hns FS FH AV hfr) hZ (hw _ (own_w 38 rfl)) (hw _ (own_w 2 rfl)) (by decide) (by decide)) (g := (mkF m 2 #[.val (.ref a1), .val (.long q2), .second, .val (.long q3), .second, .unset] [(.long q2), (.ref a1)])) rfl (by rw [hml]; rfl) (Steps.refl _) (a := a1) (by rw [e0]; exact qq1) qq1' (argsL := [(.long q2)]) (rest := []) (lenOf pd_1 rfl) rfl (by show 2 * 0 + _ ≤ _; exact Nat.le_of_eq rfl) (hb hby d12_2) (fun _ _ => ⟨rfl, e0, (by decide : 0 + 0 ≤ _), (by decide : 0 + 0 ≤ _)⟩)
  dsimp only [Pt.U, Pt.locs, Pt.cells, Pt.slots] at X1 lq1 yq1 zq1 st1 hQ1
  subst lq1 yq1 zq1
  obtain ⟨r1, hr1, rfl, N1q, e1⟩ := hQ1
  have N1 := Fr.app N0 N1q
  obtain ⟨i1, hi1, rfl, P1⟩ := hr1
  obtain ⟨T2, X2, e2, st2⟩ := getF X1 hx hZ hown (host := "") (Or.inl (hw _ (own_w 13 rfl))) Via.refl e1 FS (g := (mkF m 8 #[.val (.ref a1), .val (.long q2), .second, .val (.long q3), .second, .val (.int (own_p i1))] [(.ref a1)])) rfl rfl (hb hby d12_8)
  obtain ⟨cl3, Ar3, qk3, Sz3, Nn3, Hh3, Gg3⟩ := id (AV)
  have hin4 : ¬ ((own_p i1) < 0 ∨ cl3.slots.size ≤ ((own_p i1)).toNatClampNeg) := inb_of Sz3 ⟨own_p0 (own_lt8 hi1 hn), own_plt hi1 hn⟩
  obtain ⟨T4, h4, X4, e4, W4, st4⟩ := stJ X2 hx hZ e2 Ar3 (j := (own_p i1)) hin4 (g := (mkF m 14 #[.val (.ref a1), .val (.long q2), .second, .val (.long q3), .second, .val (.int (own_p i1))] [(.long q2), (.int (own_p i1)), (.ref a)])) rfl rfl (hb hby d12_14)
  have N4 := Fr.snoc X4 N1 ga
  have Z4 : n0 ≤ h4.size := by rw [W4.size]; exact Z0
  have K4 : Keep h0 h4 [a] := (Keep.refl h0 [a]).wr W4 (Or.inl (own_w 0 rfl))
  have V4 : Arv Z h4 a k .long (Int32.ofNat (2 * n)) ((arr.set (2 * i1) q2).map Value.long) (.long (0 : Int64)) := by
    have q := Arv.set Ar3 qk3 Sz3 Nn3 Hh3 Gg3 rfl W4 (2 * i1) (own_pN (own_lt8 hi1 hn)) (by rw [List.length_map, hlen]; omega)
    rw [List.map_set]; exact q
  have f5 := (FS.other W4 (Or.inl hne))
  obtain ⟨T6, X6, e6, st6⟩ := getF X4 hx hZ hown (host := "") (Or.inl (hw _ (own_w 13 rfl))) Via.refl e4 f5 (g := (mkF m 16 #[.val (.ref a1), .val (.long q2), .second, .val (.long q3), .second, .val (.int (own_p i1))] [(.ref a1)])) rfl rfl (hb hby d12_16)
  obtain ⟨cl7, Ar7, qk7, Sz7, Nn7, Hh7, Gg7⟩ := id (V4)
  have hin8 : ¬ (((own_p i1) + (1 : Int32)) < 0 ∨ cl7.slots.size ≤ (((own_p i1) + (1 : Int32))).toNatClampNeg) := inb_of Sz7 ⟨own_q0 (own_lt8 hi1 hn), own_qlt hi1 hn⟩
  obtain ⟨T8, h8, X8, e8, W8, st8⟩ := stJ X6 hx hZ e6 Ar7 (j := ((own_p i1) + (1 : Int32))) hin8 (g := (mkF m 24 #[.val (.ref a1), .val (.long q2), .second, .val (.long q3), .second, .val (.int (own_p i1))] [(.long q3), (.int ((own_p i1) + (1 : Int32))), (.ref a)])) rfl rfl (hb hby d12_24)
  have N8 := Fr.snoc X8 N4 ga
  have Z8 : n0 ≤ h8.size := by rw [W8.size]; exact Z4
  have K8 : Keep h0 h8 [a] := K4.wr W8 (Or.inl (own_w 0 rfl))
  have V8 : Arv Z h8 a k .long (Int32.ofNat (2 * n)) (((arr.set (2 * i1) q2).set (2 * i1 + 1) q3).map Value.long) (.long (0 : Int64)) := by
    have q := Arv.set Ar7 qk7 Sz7 Nn7 Hh7 Gg7 rfl W8 (2 * i1 + 1) (own_qN (own_lt8 hi1 hn)) (by rw [List.length_map, List.length_set, hlen]; omega)
    rw [List.map_set]; exact q
  obtain ⟨fs, hr, hrun, hended, hW, hsame⟩ := X8.leave (v := none) (fun _ => rfl) (BodyLoose.notSynchronized Bd)
  refine ⟨_, _, pre0 _ ?_, hrun, hended, _, _, rfl, ?_, ⟨_, rfl⟩, hW, hsame.mono (by decide) (by decide)⟩
  · show Steps p.tables e below (s₁.setTop (mkF m 0 #[.val (.ref a1), .val (.long q2), .second, .val (.long q3), .second, .unset] [])) _
    refine XS.aloadN X0.here hx rfl (hb hby d12_0) rfl rfl ?_
    refine XS.lloadN X0.here hx rfl (hb hby d12_1) rfl ?_
    refine st1.trans ?_
    refine XS.istore X1.here hx rfl (hb hby d12_5) rfl (l' := #[.val (.ref a1), .val (.long q2), .second, .val (.long q3), .second, .val (.int (own_p i1))]) rfl ?_
    refine XS.aloadN X1.here hx rfl (hb hby d12_7) rfl rfl ?_
    refine st2 _ ?_
    refine XS.iload X2.here hx rfl (hb hby d12_11) rfl ?_
    refine XS.lloadN X2.here hx rfl (hb hby d12_13) rfl ?_
    refine st4 _ ?_
    refine XS.aloadN X4.here hx rfl (hb hby d12_15) rfl rfl ?_
    refine st6 _ ?_
    refine XS.iload X6.here hx rfl (hb hby d12_19) rfl ?_
    refine XS.iconst X6.here hx rfl (hb hby d12_21) ?_
    refine XS.iadd X6.here hx rfl (hb hby d12_22) rfl ?_
    refine XS.lloadN X6.here hx rfl (hb hby d12_23) rfl ?_
    refine st8 _ ?_
    show Steps p.tables e below (T8.setTop (mkF m 25 #[.val (.ref a1), .val (.long q2), .second, .val (.long q3), .second, .val (.int (own_p i1))] [])) _
    exact X8.returnOut hx Bd.returns (hb hby d12_25) hr
  · show QrmP Z a1 q2 q3 a k arr n sh h0 n0 _ T8.heap _
    rw [e8]
    exact ⟨rfl, N8, K8, i1, hi1, P1, V8⟩
def own_Tab (Z : State) (h : Heap) (n0 : Nat) (t : Addr) (n : Nat) (D : Int64 → Prop) (mm : Int64 → Int64) (sz : Nat) (so : Value) : Prop :=
  ∃ (a : Addr) (k : ClassId) (arr : List Int64) (sh : Int32), ((n = 4 ∧ sh = 62) ∨ (n = 8 ∧ sh = 61)) ∧ n0 ≤ a ∧ Exa Z h t "com/example/pricewright/pricewright/core/LongSumTable" ∧ Fld Z h t "com/example/pricewright/pricewright/core/LongSumTable" "slots" "[J" (.ref a) ∧ Fld Z h t "com/example/pricewright/pricewright/core/LongSumTable" "shift" "I" (.int sh) ∧ Fld Z h t "com/example/pricewright/pricewright/core/LongSumTable" "size" "I" (.int (Int32.ofNat sz)) ∧ Fld Z h t "com/example/pricewright/pricewright/core/LongSumTable" "sorted" "[J" so ∧ Arv Z h a k .long (Int32.ofNat (2 * n)) (arr.map Value.long) (.long (0 : Int64)) ∧ arr.length = 2 * n ∧ own_Rep (own_K arr) (own_W arr) n (own_hs n) D mm sz
theorem own_sz1 {sz : Nat} (h : sz ≤ 2) : Int32.ofNat sz + (1 : Int32) = Int32.ofNat (sz + 1) := (by decide +kernel : ∀ j : Fin 3, Int32.ofNat j.1 + (1 : Int32) = Int32.ofNat (j.1 + 1)) ⟨sz, by omega⟩
theorem own_sz2 {sz : Nat} (h : sz ≤ 2) (q : (2 : Int32) < Int32.ofNat sz + (1 : Int32)) : sz = 2 := (by decide +kernel : ∀ j : Fin 3, (2 : Int32) < Int32.ofNat j.1 + (1 : Int32) → j.1 = 2) ⟨sz, by omega⟩ q
theorem own_sz3 {sz : Nat} (h : sz ≤ 2) (q : ¬ (2 : Int32) < Int32.ofNat sz + (1 : Int32)) : sz ≤ 1 := (by decide +kernel : ∀ j : Fin 3, ¬ (2 : Int32) < Int32.ofNat j.1 + (1 : Int32) → j.1 ≤ 1) ⟨sz, by omega⟩ q
theorem own_repK {arr : List Int64} {i n : Nat} {k v : Int64} {hs : Int64 → Nat} {D : Int64 → Prop} {mm : Int64 → Int64} {sz : Nat} (hl : arr.length = 2 * n) (R : own_Rep (own_K arr) (own_W arr) n hs D mm sz) (hi : i < n) (hk : k ≠ own_FREE) (I : own_Idx (own_K arr) n (hs k) k i) (hne : ¬ own_K arr i = k) :
    ¬ D k ∧ own_Rep (own_K ((arr.set (2 * i) k).set (2 * i + 1) v)) (own_W ((arr.set (2 * i) k).set (2 * i + 1) v)) n hs (fun x => D x ∨ x = k) (fun x => if x = k then mm k + v else mm x) (sz + 1) := by
  have hf : own_K arr i = own_FREE := by obtain ⟨-, -, -, q | q⟩ := I; exact absurd q hne; exact q
  have hD := own_rep_none R I hf
  refine ⟨hD, ?_⟩
  rw [own_Kins hl hi, own_Wins hl hi]
  refine own_rep_eq (own_rep_put R hi hk I hf v) (fun _ => Iff.rfl) (fun x => ?_) rfl
  by_cases q : x = k
  · rw [if_pos q, if_pos q, R.2.2.1 k hD, Int64.zero_add]
  · rw [if_neg q, if_neg q]
theorem own_repW {arr : List Int64} {i n : Nat} {k v : Int64} {hs : Int64 → Nat} {D : Int64 → Prop} {mm : Int64 → Int64} {sz : Nat} (hl : arr.length = 2 * n) (R : own_Rep (own_K arr) (own_W arr) n hs D mm sz) (hi : i < n) (hk : k ≠ own_FREE) (he : own_K arr i = k) :
    D k ∧ own_Rep (own_K (arr.set (2 * i + 1) (own_W arr i + v))) (own_W (arr.set (2 * i + 1) (own_W arr i + v))) n hs (fun x => D x ∨ x = k) (fun x => if x = k then mm k + v else mm x) sz := by
  obtain ⟨hD, hW⟩ := own_rep_dom R hi hk he
  refine ⟨hD, ?_⟩
  rw [own_Kset, own_Wset hl hi]
  refine own_rep_eq (own_rep_found R hi hk he (own_W arr i + v)) (fun x => ⟨Or.inl, fun q => q.elim id fun z => z ▸ hD⟩) (fun x => ?_) rfl
  rw [hW]

theorem pd_3 : parseMethodDescriptor "(JJ)V" = some ⟨[.long, .long], none⟩ := by decide +kernel
theorem d20_0 : decode prog_19_method_9_code 0 = .ok (.new 3, 3) := by decide +kernel
theorem d20_3 : decode prog_19_method_9_code 3 = .ok (.dup, 1) := by decide +kernel
theorem d20_4 : decode prog_19_method_9_code 4 = .ok (.iload_n 1, 1) := by decide +kernel
theorem d20_5 : decode prog_19_method_9_code 5 = .ok (.invokespecial 5, 3) := by decide +kernel
theorem d20_8 : decode prog_19_method_9_code 8 = .ok (.astore_n 2, 1) := by decide +kernel
theorem d20_9 : decode prog_19_method_9_code 9 = .ok (.iconst 0, 1) := by decide +kernel
theorem d20_10 : decode prog_19_method_9_code 10 = .ok (.istore_n 3, 1) := by decide +kernel
theorem d20_11 : decode prog_19_method_9_code 11 = .ok (.iload_n 3, 1) := by decide +kernel
theorem d20_12 : decode prog_19_method_9_code 12 = .ok (.aload_n 0, 1) := by decide +kernel
theorem d20_13 : decode prog_19_method_9_code 13 = .ok (.getfield 14, 3) := by decide +kernel
theorem d20_16 : decode prog_19_method_9_code 16 = .ok (.arraylength, 1) := by decide +kernel
theorem d20_17 : decode prog_19_method_9_code 17 = .ok (.if_icmp .ge 40, 3) := by decide +kernel
theorem d20_20 : decode prog_19_method_9_code 20 = .ok (.aload_n 0, 1) := by decide +kernel
theorem d20_21 : decode prog_19_method_9_code 21 = .ok (.getfield 14, 3) := by decide +kernel
theorem d20_24 : decode prog_19_method_9_code 24 = .ok (.iload_n 3, 1) := by decide +kernel
theorem d20_25 : decode prog_19_method_9_code 25 = .ok (.laload, 1) := by decide +kernel
theorem d20_26 : decode prog_19_method_9_code 26 = .ok (.ldc2_w 18, 3) := by decide +kernel
theorem d20_29 : decode prog_19_method_9_code 29 = .ok (.lcmp, 1) := by decide +kernel
theorem d20_30 : decode prog_19_method_9_code 30 = .ok (.ifCond .eq 21, 3) := by decide +kernel
theorem d20_33 : decode prog_19_method_9_code 33 = .ok (.aload_n 2, 1) := by decide +kernel
theorem d20_34 : decode prog_19_method_9_code 34 = .ok (.aload_n 0, 1) := by decide +kernel
theorem d20_35 : decode prog_19_method_9_code 35 = .ok (.getfield 14, 3) := by decide +kernel
theorem d20_38 : decode prog_19_method_9_code 38 = .ok (.iload_n 3, 1) := by decide +kernel
theorem d20_39 : decode prog_19_method_9_code 39 = .ok (.laload, 1) := by decide +kernel
theorem d20_40 : decode prog_19_method_9_code 40 = .ok (.aload_n 0, 1) := by decide +kernel
theorem d20_41 : decode prog_19_method_9_code 41 = .ok (.getfield 14, 3) := by decide +kernel
theorem d20_44 : decode prog_19_method_9_code 44 = .ok (.iload_n 3, 1) := by decide +kernel
theorem d20_45 : decode prog_19_method_9_code 45 = .ok (.iconst 1, 1) := by decide +kernel
theorem d20_46 : decode prog_19_method_9_code 46 = .ok (.iadd, 1) := by decide +kernel
theorem d20_47 : decode prog_19_method_9_code 47 = .ok (.laload, 1) := by decide +kernel
theorem d20_48 : decode prog_19_method_9_code 48 = .ok (.invokevirtual 59, 3) := by decide +kernel
theorem d20_51 : decode prog_19_method_9_code 51 = .ok (.iinc 3 2, 3) := by decide +kernel
theorem d20_54 : decode prog_19_method_9_code 54 = .ok (.goto (-43), 3) := by decide +kernel
theorem d20_57 : decode prog_19_method_9_code 57 = .ok (.aload_n 0, 1) := by decide +kernel
theorem d20_58 : decode prog_19_method_9_code 58 = .ok (.aload_n 2, 1) := by decide +kernel
theorem d20_59 : decode prog_19_method_9_code 59 = .ok (.getfield 14, 3) := by decide +kernel
theorem d20_62 : decode prog_19_method_9_code 62 = .ok (.putfield 14, 3) := by decide +kernel
theorem d20_65 : decode prog_19_method_9_code 65 = .ok (.aload_n 0, 1) := by decide +kernel
theorem d20_66 : decode prog_19_method_9_code 66 = .ok (.aload_n 2, 1) := by decide +kernel
theorem d20_67 : decode prog_19_method_9_code 67 = .ok (.getfield 24, 3) := by decide +kernel
theorem d20_70 : decode prog_19_method_9_code 70 = .ok (.putfield 24, 3) := by decide +kernel
theorem d20_73 : decode prog_19_method_9_code 73 = .ok (.return_, 1) := by decide +kernel
theorem pn_20 : plainName "com/example/pricewright/pricewright/core/LongSumTable" = true := by first | (simp [plainName, overriddenIn]; done) | decide +kernel
theorem ef_rmR (m : MethodId) (a1 : Addr) : entryFrame m #[(.ref a1), (.int (8 : Int32))] 4 = mkF m 0 #[.val (.ref a1), .val (.int (8 : Int32)), .unset, .unset] [] := by first | (simp [entryFrame, mkF, argsToLocals, Value.category]; done) | rfl
def QrmR (Z : State) (a1 : Addr) (a : Addr) (k : ClassId) (arr : List Int64) (zi : Int32) (D : Int64 → Prop) (mm : Int64 → Int64) (sz : Nat) (h0 : Heap) (n0 : Nat) (v : Option Value) (h : Heap) (L : List Loc) : Prop := v = none ∧ Fr n0 L ∧ n0 ≤ h.size ∧ Keep h0 h [a1] ∧ ∃ (a' : Addr) (k' : ClassId) (arr' : List Int64), n0 ≤ a' ∧ Exa Z h a1 "com/example/pricewright/pricewright/core/LongSumTable" ∧ Fld Z h a1 "com/example/pricewright/pricewright/core/LongSumTable" "slots" "[J" (.ref a') ∧ Fld Z h a1 "com/example/pricewright/pricewright/core/LongSumTable" "shift" "I" (.int (61 : Int32)) ∧ Fld Z h a1 "com/example/pricewright/pricewright/core/LongSumTable" "size" "I" (.int zi) ∧ Fld Z h a1 "com/example/pricewright/pricewright/core/LongSumTable" "sorted" "[J" .null ∧ Arv Z h a' k' .long (16 : Int32) (arr'.map Value.long) (.long (0 : Int64)) ∧ arr'.length = 2 * 8 ∧ own_Rep (own_K arr') (own_W arr') 8 (own_hs 8) D mm sz
set_option maxRecDepth 65536 in
set_option maxHeartbeats 40000000 in
theorem rmR (l : Launch) (Z : State) (a0 : Array Value) (hw : ∀ d ∈ tables_1, d.before a0 Z = true) (ws : List Jvm.Cond) (a1 : Addr) (a : Addr) (k : ClassId) (arr : List Int64) (zi : Int32) (D : Int64 → Prop) (mm : Int64 → Int64) (sz : Nat) (h0 : Heap) (n0 : Nat) (Z0 : n0 ≤ h0.size) (E : Exa Z h0 a1 "com/example/pricewright/pricewright/core/LongSumTable") (FS : Fld Z h0 a1 "com/example/pricewright/pricewright/core/LongSumTable" "slots" "[J" (.ref a)) (FH : Fld Z h0 a1 "com/example/pricewright/pricewright/core/LongSumTable" "shift" "I" (.int (62 : Int32))) (FZ : Fld Z h0 a1 "com/example/pricewright/pricewright/core/LongSumTable" "size" "I" (.int zi)) (FQ : Fld Z h0 a1 "com/example/pricewright/pricewright/core/LongSumTable" "sorted" "[J" .null) (AV : Arv Z h0 a k .long (8 : Int32) (arr.map Value.long) (.long (0 : Int64))) (hlen : arr.length = 2 * 4) (hne : a1 ≠ a) (ga1 : n0 ≤ a1) (ga : n0 ≤ a) (Rp : own_Rep (own_K arr) (own_W arr) 4 (own_hs 4) D mm sz) :
    MetFree l (⟨"com/example/pricewright/pricewright/core/LongSumTable", "resize", "(I)V"⟩ : MethodName) (head1 (Jvm.Cond.code (⟨"com/example/pricewright/pricewright/core/LongSumTable", "resize", "(I)V"⟩ : MethodName) prog_19_method_9_code 4 none :: ws) ({ frames := 3, cells := 2, slots := 20, locals := 44 } : Room)) (fun a U => a = #[(.ref a1), (.int (8 : Int32))] ∧ Z.Warmed39 U.vm ∧ U.heap = h0) (fun _ _ _ _ _ => True) (fun _ U o U' => ∃ v L, o = .returned v ∧ QrmR Z a1 a k arr zi D mm sz h0 n0 v U'.heap L ∧ FrameEnd U o U' L ({ frames := 3, cells := 2, slots := 20, locals := 44 } : Room).cells ({ frames := 3, cells := 2, slots := 20, locals := 44 } : Room).slots) := by
  refine MetFree.of_bodySF (plainFor_of_name pn_20) hisR ?_
  intro p e s m args below meth c s₁ Bd hml0 hP hK
  obtain ⟨rfl, hZ, hh⟩ := hP
  have hx := Bd.exec
  have hby := Bd.bytes
  have hml : c.maxLocals = 4 := hml0
  have hown : s.vm.findClass "com/example/pricewright/pricewright/core/LongSumTable" = some m.cls := findClass_of_methodNamed Bd.named
  have hnm := (name_of_methodNamed Bd.named Bd.method).1
  have X0 : Stand p l e ({ frames := 3, cells := 2, slots := 20, locals := 44 } : Room) s m #[(.ref a1), (.int (8 : Int32))] below meth c s₁ [] 0 0 := Stand.of_body Bd
  have e0 : s₁.heap = h0 := by rw [← hh, Bd.state]; rfl
  have N0 := Fr.nil n0
  have pre0 : ∀ t, Steps p.tables e below (s₁.setTop (mkF m 0 #[.val (.ref a1), .val (.int (8 : Int32)), .unset, .unset] [])) t → Steps p.tables e below (s₁.setTop (entryFrame m #[(.ref a1), (.int (8 : Int32))] 4)) t := fun t k => castTop (ef_rmR m a1) k
  obtain ⟨T1, h1, X1, e1, E1, A1, D1, -, st1⟩ := newO X0 hx hZ hown (hw _ (own_w 49 rfl)) (hw _ (own_w 1 rfl)) (hw _ (own_w 2 rfl)) e0 (g := (mkF m 0 #[.val (.ref a1), .val (.int (8 : Int32)), .unset, .unset] [])) rfl (hb hby d20_0) (by decide) (by decide)
  obtain ⟨b1o, g1⟩ : ∃ z, z = h0.size := ⟨_, rfl⟩
  have b1 : n0 ≤ b1o := Nat.le_trans Z0 (Nat.le_of_eq g1.symm)
  have bk1 : h0.size ≤ b1o := Nat.le_trans (Keep.refl h0 [a1]).1 (Nat.le_of_eq g1.symm)
  have ne2 : a1 ≠ b1o := Nat.ne_of_lt (Nat.lt_of_lt_of_le E.lt (Nat.le_of_eq g1.symm))
  have ne3 : a ≠ b1o := Nat.ne_of_lt (Nat.lt_of_lt_of_le AV.lt (Nat.le_of_eq g1.symm))
  rw [← g1] at A1 D1 st1
  have Z1 : n0 ≤ h1.size := Nat.le_trans Z0 E1.1
  have K1 : Keep h0 h1 [a1] := (Keep.refl h0 [a1]).ext E1
  have F1_14 : Fld Z h1 b1o "com/example/pricewright/pricewright/core/LongSumTable" "slots" "[J" .null := D1 (Or.inl (hw _ (own_w 14 rfl))) (ty := (.array .long)) (by decide)
  have F1_26 : Fld Z h1 b1o "com/example/pricewright/pricewright/core/LongSumTable" "shift" "I" (.int (0 : Int32)) := D1 (Or.inl (hw _ (own_w 26 rfl))) (ty := .int) (by decide)
  have F1_41 : Fld Z h1 b1o "com/example/pricewright/pricewright/core/LongSumTable" "sorted" "[J" .null := D1 (Or.inl (hw _ (own_w 41 rfl))) (ty := (.array .long)) (by decide)
  have F1_43 : Fld Z h1 b1o "com/example/pricewright/pricewright/core/LongSumTable" "size" "I" (.int (0 : Int32)) := D1 (Or.inl (hw _ (own_w 43 rfl))) (ty := .int) (by decide)
  have f5 := (E.ext E1)
  have f6 := (FS.ext E1)
  have f7 := (FH.ext E1)
  have f8 := (FZ.ext E1)
  have f9 := (FQ.ext E1)
  have f10 := (AV.ext E1)
  obtain ⟨_, _, ⟨T4, Lq4, kq4, nq4⟩, -, X4, ⟨Lc4, hQ4, lq4, yq4, zq4⟩, st4⟩ := X1.specialBack hx (y := (⟨"com/example/pricewright/pricewright/core/LongSumTable", "<init>", "(I)V"⟩ : MethodName)) rfl hown (mvT hZ (hw _ (own_w 6 rfl))) (mvT hZ (hw _ (own_w 7 rfl))) (mvT hZ (hw _ (own_w 8 rfl))) (by decide) (backOf (W := 1) (rmI8 l Z a0 hw [] b1o  h1 n0 Z1 A1 F1_14 F1_26 F1_43 F1_41 b1) hZ (hw _ (own_w 8 rfl)) (hw _ (own_w 2 rfl)) (by decide) (by decide)) (g := (mkF m 5 #[.val (.ref a1), .val (.int (8 : Int32)), .unset, .unset] [(.int (8 : Int32)), (.ref b1o), (.ref b1o)])) rfl (by rw [hml]; rfl) (Steps.refl _) (a := b1o) (argsL := [(.int (8 : Int32))]) (rest := [(.ref b1o)]) (lenOf pd_2 rfl) rfl (by show 2 * 0 + _ ≤ _; exact Nat.le_of_eq rfl) (hb hby d20_5) (fun _ _ => ⟨rfl, e1, (by decide : 1 + 1 ≤ _), (by decide : 4 + 16 ≤ _)⟩)
  dsimp only [Pt.U, Pt.locs, Pt.cells, Pt.slots] at X4 lq4 yq4 zq4 st4 hQ4
  subst lq4 yq4 zq4
  obtain ⟨rfl, N4q, KC4, u4⟩ := hQ4
  have N4 := Fr.app N0 N4q
  have Z4 : n0 ≤ T4.heap.size := Nat.le_trans Z1 KC4.1
  have K4 : Keep h0 T4.heap [a1] := K1.trans KC4 (allS (Or.inr bk1) all0)
  obtain ⟨sa4, sk4, ga4, gk4, EI4, FS4, FH4, FZ4, FQ4, AV4⟩ := id u4
  have net4 : b1o ≠ sa4 := ne_arrV (EI4) (hw _ (own_w 1 rfl)) AV4
  have ne11 : a1 ≠ sa4 := Nat.ne_of_lt (Nat.lt_of_lt_of_le f9.lt gk4)
  have ne12 : a ≠ sa4 := Nat.ne_of_lt (Nat.lt_of_lt_of_le f10.lt gk4)
  have rep0 := own_part_none (K := own_K arr) (W2 := own_W own_new8) (hs2 := own_hs 8) (m := mm) own_new8K
  have tn13 : ∃ (T' : State) (h' : Heap) (arr2 : List Int64) (L' : List Loc), Stand p l e ({ frames := 3, cells := 2, slots := 20, locals := 44 } : Room) s m #[(.ref a1), (.int (8 : Int32))] below meth c T' L' 2 20 ∧ T'.heap = h' ∧ Fr n0 L' ∧ n0 ≤ h'.size ∧ Keep T4.heap h' [sa4] ∧ arr2.length = 2 * 8 ∧ Arv Z h' sa4 sk4 .long (16 : Int32) (arr2.map Value.long) (.long (0 : Int64)) ∧ own_Rep (own_K arr2) (own_W arr2) 8 (own_hs 8) (own_Part (own_K arr) 1) (fun x => @ite _ (own_Part (own_K arr) 1 x) (Classical.propDecidable _) (mm x) 0) (own_cnt (own_K arr) 1) ∧ ∀ target, Steps p.tables e below (T'.setTop (mkF m 11 #[.val (.ref a1), .val (.int (8 : Int32)), .val (.ref b1o), .val (.int (2 : Int32))] [])) target → Steps p.tables e below (T4.setTop (mkF m 11 #[.val (.ref a1), .val (.int (8 : Int32)), .val (.ref b1o), .val (.int (0 : Int32))] [])) target := by
    have f14 := (f6.keep KC4 (ninS ne2 nin0))
    obtain ⟨T15, X15, e15, st15⟩ := getF X4 hx hZ hown (host := "") (Or.inl (hw _ (own_w 13 rfl))) Via.refl rfl f14 (g := (mkF m 13 #[.val (.ref a1), .val (.int (8 : Int32)), .val (.ref b1o), .val (.int (0 : Int32))] [(.ref a1), (.int (0 : Int32))])) rfl rfl (hb hby d20_13)
    have f16 := (f10.keep KC4 (ninS ne3 nin0))
    obtain ⟨cl17, Ar17, qk17, Sz17, Nn17, Hh17, Gg17⟩ := id (f16)
    obtain ⟨T18, X18, e18, st18⟩ := getF X15 hx hZ hown (host := "") (Or.inl (hw _ (own_w 13 rfl))) Via.refl e15 f14 (g := (mkF m 21 #[.val (.ref a1), .val (.int (8 : Int32)), .val (.ref b1o), .val (.int (0 : Int32))] [(.ref a1)])) rfl rfl (hb hby d20_21)
    obtain ⟨cl19, Ar19, qk19, Sz19, Nn19, Hh19, Gg19⟩ := id (f16)
    have hin20 : ¬ ((0 : Int32) < 0 ∨ cl19.slots.size ≤ ((0 : Int32)).toNatClampNeg) := inb_of Sz19 ⟨by decide, by decide⟩
    have hat20 : cl19.slots[((0 : Int32)).toNatClampNeg]? = some (.long (own_K arr 0)) := Has.at Hh19 hin20 (own_ld arr 0)
    by_cases hc30 : (own_K arr 0) = (-9223372036854775808 : Int64)
    · refine ⟨T18, _, own_new8, _, X18, e18, N4, Z4, Keep.refl _ _, (rfl : own_new8.length = 2 * 8), AV4, own_part_skip rep0 hc30, fun target kt => ?_⟩
      show Steps p.tables e below (T4.setTop (mkF m 11 #[.val (.ref a1), .val (.int (8 : Int32)), .val (.ref b1o), .val (.int (0 : Int32))] [])) _
      refine XS.iloadN X4.here hx rfl (hb hby d20_11) rfl ?_
      refine XS.aloadN X4.here hx rfl (hb hby d20_12) rfl rfl ?_
      refine st15 _ ?_
      refine X15.arraylength hx (by rw [e15]; exact Ar17.1) (State.isArrayOf_alike hZ.alike Ar17.2.1) (g := (mkF m 16 #[.val (.ref a1), .val (.int (8 : Int32)), .val (.ref b1o), .val (.int (0 : Int32))] [(.ref a), (.int (0 : Int32))])) rfl rfl (hb hby d20_16) _ ?_
      rw [len_of Sz17 Nn17]
      show Steps p.tables e below (T15.setTop (mkF m 17 #[.val (.ref a1), .val (.int (8 : Int32)), .val (.ref b1o), .val (.int (0 : Int32))] [(.int (8 : Int32)), (.int (0 : Int32))])) _
      refine XS.icmpNo X15.here hx rfl (hb hby d20_17) rfl (tlt (by decide)).2.1 ?_
      refine XS.aloadN X15.here hx rfl (hb hby d20_20) rfl rfl ?_
      refine st18 _ ?_
      refine XS.iloadN X18.here hx rfl (hb hby d20_24) rfl ?_
      refine X18.laload hx (j := (0 : Int32)) (v := (.long (own_K arr 0))) (by rw [e18]; exact Ar19.1) (State.isArrayOf_alike hZ.alike Ar19.2.1) Ar19.2.2 hin20 hat20 (g := (mkF m 25 #[.val (.ref a1), .val (.int (8 : Int32)), .val (.ref b1o), .val (.int (0 : Int32))] [(.int (0 : Int32)), (.ref a)])) rfl rfl (hb hby d20_25) _ ?_
      refine X18.ldc2Long hx hown (mvT hZ (hw _ (own_w 15 rfl))) (g := (mkF m 26 #[.val (.ref a1), .val (.int (8 : Int32)), .val (.ref b1o), .val (.int (0 : Int32))] [(.long (own_K arr 0))])) rfl (hb hby d20_26) _ ?_
      refine XS.lcmp X18.here hx rfl (hb hby d20_29) rfl ?_
      refine XS.ifYes X18.here hx rfl (pc0 := 30) (pc' := 51) rfl (hb hby d20_30) rfl ((if0 _ _).trans (teq (own_lceq hc30)).1) (by decide) (by decide) ?_
      refine XS.iinc X18.here hx rfl (hb hby d20_51) rfl (l' := #[.val (.ref a1), .val (.int (8 : Int32)), .val (.ref b1o), .val (.int (2 : Int32))]) rfl ?_
      refine XS.goto X18.here hx rfl (pc0 := 54) (pc' := 11) rfl (hb hby d20_54) (by decide) (by decide) ?_
      exact kt
    · obtain ⟨T21, X21, e21, st21⟩ := getF X18 hx hZ hown (host := "") (Or.inl (hw _ (own_w 13 rfl))) Via.refl e18 f14 (g := (mkF m 35 #[.val (.ref a1), .val (.int (8 : Int32)), .val (.ref b1o), .val (.int (0 : Int32))] [(.ref a1), (.ref b1o)])) rfl rfl (hb hby d20_35)
      obtain ⟨cl22, Ar22, qk22, Sz22, Nn22, Hh22, Gg22⟩ := id (f16)
      have hin23 : ¬ ((0 : Int32) < 0 ∨ cl22.slots.size ≤ ((0 : Int32)).toNatClampNeg) := inb_of Sz22 ⟨by decide, by decide⟩
      have hat23 : cl22.slots[((0 : Int32)).toNatClampNeg]? = some (.long (own_K arr 0)) := Has.at Hh22 hin23 (own_ld arr 0)
      obtain ⟨T24, X24, e24, st24⟩ := getF X21 hx hZ hown (host := "") (Or.inl (hw _ (own_w 13 rfl))) Via.refl e21 f14 (g := (mkF m 41 #[.val (.ref a1), .val (.int (8 : Int32)), .val (.ref b1o), .val (.int (0 : Int32))] [(.ref a1), (.long (own_K arr 0)), (.ref b1o)])) rfl rfl (hb hby d20_41)
      obtain ⟨cl25, Ar25, qk25, Sz25, Nn25, Hh25, Gg25⟩ := id (f16)
      have hin26 : ¬ ((1 : Int32) < 0 ∨ cl25.slots.size ≤ ((1 : Int32)).toNatClampNeg) := inb_of Sz25 ⟨by decide, by decide⟩
      have hat26 : cl25.slots[((1 : Int32)).toNatClampNeg]? = some (.long (own_W arr 0)) := Has.at Hh25 hin26 (own_ld arr 1)
      have hfr : ∃ j, j < 8 ∧ own_K (own_new8) j = own_FREE := own_cnt_free (by rw [rep0.2.2.2]; have := own_cnt_le (own_K arr) 0; omega)
      obtain ⟨cq27, qq27, qq27'⟩ := EI4.cell
      obtain ⟨_, _, ⟨T27, Lq27, kq27, nq27⟩, -, X27, ⟨Lc27, hQ27, lq27, yq27, zq27⟩, st27⟩ := X24.privateBack hx (y := (⟨"com/example/pricewright/pricewright/core/LongSumTable", "put", "(JJ)V"⟩ : MethodName)) hown (mvT hZ (hw _ (own_w 57 rfl))) (mvT hZ (hw _ (own_w 58 rfl))) (own_selpriv (mvT hZ (hw _ (own_w 1 rfl))) (Cond.privateMethod_at (mvP hZ (hw _ (own_w 59 rfl)) (args := #[]))) (mvT hZ (hw _ (own_w 58 rfl))) (by decide)) (Cond.privateMethod_at (mvP hZ (hw _ (own_w 59 rfl)) (args := #[]))) (mvT hZ (hw _ (own_w 60 rfl))) (by decide) (backOf (W := 0) (rmP l Z a0 hw [] b1o (own_K arr 0) (own_W arr 0) sa4 sk4 (own_new8) 8 (61 : Int32) T4.heap n0 Z4 (Or.inr ⟨rfl, rfl⟩) EI4 FS4 FH4 AV4 hfr (rfl : own_new8.length = 2 * 8) net4 ga4) hZ (hw _ (own_w 60 rfl)) (hw _ (own_w 2 rfl)) (by decide) (by decide)) (g := (mkF m 48 #[.val (.ref a1), .val (.int (8 : Int32)), .val (.ref b1o), .val (.int (0 : Int32))] [(.long (own_W arr 0)), (.long (own_K arr 0)), (.ref b1o)])) rfl (by rw [hml]; rfl) (Steps.refl _) (a := b1o) (by rw [e24]; exact qq27) qq27' (argsL := [(.long (own_K arr 0)), (.long (own_W arr 0))]) (rest := []) (lenOf pd_3 rfl) rfl (by show 2 * 0 + _ ≤ _; exact Nat.le_of_eq rfl) (hb hby d20_48) (fun _ _ => ⟨rfl, e24, (by decide : 2 + 0 ≤ _), (by decide : 20 + 0 ≤ _)⟩)
      dsimp only [Pt.U, Pt.locs, Pt.cells, Pt.slots] at X27 lq27 yq27 zq27 st27 hQ27
      subst lq27 yq27 zq27
      obtain ⟨rfl, N27q, KC27, u27⟩ := hQ27
      have N27 := Fr.app N4 N27q
      have Z27 : n0 ≤ T27.heap.size := Nat.le_trans Z4 KC27.1
      obtain ⟨i27, hi27, P27, AV27⟩ := u27
      have pp := own_part_put Rp (i := 0) (by decide) hc30 rep0 hi27 P27
      refine ⟨T27, _, ((own_new8.set (2 * i27) (own_K arr 0)).set (2 * i27 + 1) (own_W arr 0)), _, X27, rfl, N27, Z27, KC27, by rw [List.length_set, List.length_set]; exact (rfl : own_new8.length = 2 * 8), AV27, by rw [own_Kins (rfl : own_new8.length = 2 * 8) hi27, own_Wins (rfl : own_new8.length = 2 * 8) hi27]; exact pp.2, fun target kt => ?_⟩
      refine XS.iloadN X4.here hx rfl (hb hby d20_11) rfl ?_
      refine XS.aloadN X4.here hx rfl (hb hby d20_12) rfl rfl ?_
      refine st15 _ ?_
      refine X15.arraylength hx (by rw [e15]; exact Ar17.1) (State.isArrayOf_alike hZ.alike Ar17.2.1) (g := (mkF m 16 #[.val (.ref a1), .val (.int (8 : Int32)), .val (.ref b1o), .val (.int (0 : Int32))] [(.ref a), (.int (0 : Int32))])) rfl rfl (hb hby d20_16) _ ?_
      rw [len_of Sz17 Nn17]
      show Steps p.tables e below (T15.setTop (mkF m 17 #[.val (.ref a1), .val (.int (8 : Int32)), .val (.ref b1o), .val (.int (0 : Int32))] [(.int (8 : Int32)), (.int (0 : Int32))])) _
      refine XS.icmpNo X15.here hx rfl (hb hby d20_17) rfl (tlt (by decide)).2.1 ?_
      refine XS.aloadN X15.here hx rfl (hb hby d20_20) rfl rfl ?_
      refine st18 _ ?_
      refine XS.iloadN X18.here hx rfl (hb hby d20_24) rfl ?_
      refine X18.laload hx (j := (0 : Int32)) (v := (.long (own_K arr 0))) (by rw [e18]; exact Ar19.1) (State.isArrayOf_alike hZ.alike Ar19.2.1) Ar19.2.2 hin20 hat20 (g := (mkF m 25 #[.val (.ref a1), .val (.int (8 : Int32)), .val (.ref b1o), .val (.int (0 : Int32))] [(.int (0 : Int32)), (.ref a)])) rfl rfl (hb hby d20_25) _ ?_
      refine X18.ldc2Long hx hown (mvT hZ (hw _ (own_w 15 rfl))) (g := (mkF m 26 #[.val (.ref a1), .val (.int (8 : Int32)), .val (.ref b1o), .val (.int (0 : Int32))] [(.long (own_K arr 0))])) rfl (hb hby d20_26) _ ?_
      refine XS.lcmp X18.here hx rfl (hb hby d20_29) rfl ?_
      refine XS.ifNo X18.here hx rfl (hb hby d20_30) rfl ((if0 _ _).trans (feq (own_lcne hc30)).1) ?_
      refine XS.aloadN X18.here hx rfl (hb hby d20_33) rfl rfl ?_
      refine XS.aloadN X18.here hx rfl (hb hby d20_34) rfl rfl ?_
      refine st21 _ ?_
      refine XS.iloadN X21.here hx rfl (hb hby d20_38) rfl ?_
      refine X21.laload hx (j := (0 : Int32)) (v := (.long (own_K arr 0))) (by rw [e21]; exact Ar22.1) (State.isArrayOf_alike hZ.alike Ar22.2.1) Ar22.2.2 hin23 hat23 (g := (mkF m 39 #[.val (.ref a1), .val (.int (8 : Int32)), .val (.ref b1o), .val (.int (0 : Int32))] [(.int (0 : Int32)), (.ref a), (.ref b1o)])) rfl rfl (hb hby d20_39) _ ?_
      refine XS.aloadN X21.here hx rfl (hb hby d20_40) rfl rfl ?_
      refine st24 _ ?_
      refine XS.iloadN X24.here hx rfl (hb hby d20_44) rfl ?_
      refine XS.iconst X24.here hx rfl (hb hby d20_45) ?_
      refine XS.iadd X24.here hx rfl (hb hby d20_46) rfl ?_
      refine X24.laload hx (j := (1 : Int32)) (v := (.long (own_W arr 0))) (by rw [e24]; exact Ar25.1) (State.isArrayOf_alike hZ.alike Ar25.2.1) Ar25.2.2 hin26 hat26 (g := (mkF m 47 #[.val (.ref a1), .val (.int (8 : Int32)), .val (.ref b1o), .val (.int (0 : Int32))] [(.int (1 : Int32)), (.ref a), (.long (own_K arr 0)), (.ref b1o)])) rfl rfl (hb hby d20_47) _ ?_
      refine st27.trans ?_
      refine XS.iinc X27.here hx rfl (hb hby d20_51) rfl (l' := #[.val (.ref a1), .val (.int (8 : Int32)), .val (.ref b1o), .val (.int (2 : Int32))]) rfl ?_
      refine XS.goto X27.here hx rfl (pc0 := 54) (pc' := 11) rfl (hb hby d20_54) (by decide) (by decide) ?_
      exact kt
  obtain ⟨T13, h13, ar13, L13, X13, e13, N13, Z13, KT13, hl13, AV13, rp13, st13⟩ := tn13
  have K13 : Keep h0 h13 [a1] := K4.trans KT13 (allS (Or.inr (Nat.le_trans K1.1 gk4)) all0)
  have tn28 : ∃ (T' : State) (h' : Heap) (arr2 : List Int64) (L' : List Loc), Stand p l e ({ frames := 3, cells := 2, slots := 20, locals := 44 } : Room) s m #[(.ref a1), (.int (8 : Int32))] below meth c T' L' 2 20 ∧ T'.heap = h' ∧ Fr n0 L' ∧ n0 ≤ h'.size ∧ Keep h13 h' [sa4] ∧ arr2.length = 2 * 8 ∧ Arv Z h' sa4 sk4 .long (16 : Int32) (arr2.map Value.long) (.long (0 : Int64)) ∧ own_Rep (own_K arr2) (own_W arr2) 8 (own_hs 8) (own_Part (own_K arr) 2) (fun x => @ite _ (own_Part (own_K arr) 2 x) (Classical.propDecidable _) (mm x) 0) (own_cnt (own_K arr) 2) ∧ ∀ target, Steps p.tables e below (T'.setTop (mkF m 11 #[.val (.ref a1), .val (.int (8 : Int32)), .val (.ref b1o), .val (.int (4 : Int32))] [])) target → Steps p.tables e below (T13.setTop (mkF m 11 #[.val (.ref a1), .val (.int (8 : Int32)), .val (.ref b1o), .val (.int (2 : Int32))] [])) target := by
    have f29 := ((f6.keep KC4 (ninS ne2 nin0)).keep KT13 (ninS ne11 nin0))
    obtain ⟨T30, X30, e30, st30⟩ := getF X13 hx hZ hown (host := "") (Or.inl (hw _ (own_w 13 rfl))) Via.refl e13 f29 (g := (mkF m 13 #[.val (.ref a1), .val (.int (8 : Int32)), .val (.ref b1o), .val (.int (2 : Int32))] [(.ref a1), (.int (2 : Int32))])) rfl rfl (hb hby d20_13)
    have f31 := ((f10.keep KC4 (ninS ne3 nin0)).keep KT13 (ninS ne12 nin0))
    obtain ⟨cl32, Ar32, qk32, Sz32, Nn32, Hh32, Gg32⟩ := id (f31)
    obtain ⟨T33, X33, e33, st33⟩ := getF X30 hx hZ hown (host := "") (Or.inl (hw _ (own_w 13 rfl))) Via.refl e30 f29 (g := (mkF m 21 #[.val (.ref a1), .val (.int (8 : Int32)), .val (.ref b1o), .val (.int (2 : Int32))] [(.ref a1)])) rfl rfl (hb hby d20_21)
    obtain ⟨cl34, Ar34, qk34, Sz34, Nn34, Hh34, Gg34⟩ := id (f31)
    have hin35 : ¬ ((2 : Int32) < 0 ∨ cl34.slots.size ≤ ((2 : Int32)).toNatClampNeg) := inb_of Sz34 ⟨by decide, by decide⟩
    have hat35 : cl34.slots[((2 : Int32)).toNatClampNeg]? = some (.long (own_K arr 1)) := Has.at Hh34 hin35 (own_ld arr 2)
    by_cases hc30 : (own_K arr 1) = (-9223372036854775808 : Int64)
    · refine ⟨T33, _, ar13, _, X33, e33, N13, Z13, Keep.refl _ _, hl13, AV13, own_part_skip rp13 hc30, fun target kt => ?_⟩
      show Steps p.tables e below (T13.setTop (mkF m 11 #[.val (.ref a1), .val (.int (8 : Int32)), .val (.ref b1o), .val (.int (2 : Int32))] [])) _
      refine XS.iloadN X13.here hx rfl (hb hby d20_11) rfl ?_
      refine XS.aloadN X13.here hx rfl (hb hby d20_12) rfl rfl ?_
      refine st30 _ ?_
      refine X30.arraylength hx (by rw [e30]; exact Ar32.1) (State.isArrayOf_alike hZ.alike Ar32.2.1) (g := (mkF m 16 #[.val (.ref a1), .val (.int (8 : Int32)), .val (.ref b1o), .val (.int (2 : Int32))] [(.ref a), (.int (2 : Int32))])) rfl rfl (hb hby d20_16) _ ?_
      rw [len_of Sz32 Nn32]
      show Steps p.tables e below (T30.setTop (mkF m 17 #[.val (.ref a1), .val (.int (8 : Int32)), .val (.ref b1o), .val (.int (2 : Int32))] [(.int (8 : Int32)), (.int (2 : Int32))])) _
      refine XS.icmpNo X30.here hx rfl (hb hby d20_17) rfl (tlt (by decide)).2.1 ?_
      refine XS.aloadN X30.here hx rfl (hb hby d20_20) rfl rfl ?_
      refine st33 _ ?_
      refine XS.iloadN X33.here hx rfl (hb hby d20_24) rfl ?_
      refine X33.laload hx (j := (2 : Int32)) (v := (.long (own_K arr 1))) (by rw [e33]; exact Ar34.1) (State.isArrayOf_alike hZ.alike Ar34.2.1) Ar34.2.2 hin35 hat35 (g := (mkF m 25 #[.val (.ref a1), .val (.int (8 : Int32)), .val (.ref b1o), .val (.int (2 : Int32))] [(.int (2 : Int32)), (.ref a)])) rfl rfl (hb hby d20_25) _ ?_
      refine X33.ldc2Long hx hown (mvT hZ (hw _ (own_w 15 rfl))) (g := (mkF m 26 #[.val (.ref a1), .val (.int (8 : Int32)), .val (.ref b1o), .val (.int (2 : Int32))] [(.long (own_K arr 1))])) rfl (hb hby d20_26) _ ?_
      refine XS.lcmp X33.here hx rfl (hb hby d20_29) rfl ?_
      refine XS.ifYes X33.here hx rfl (pc0 := 30) (pc' := 51) rfl (hb hby d20_30) rfl ((if0 _ _).trans (teq (own_lceq hc30)).1) (by decide) (by decide) ?_
      refine XS.iinc X33.here hx rfl (hb hby d20_51) rfl (l' := #[.val (.ref a1), .val (.int (8 : Int32)), .val (.ref b1o), .val (.int (4 : Int32))]) rfl ?_
      refine XS.goto X33.here hx rfl (pc0 := 54) (pc' := 11) rfl (hb hby d20_54) (by decide) (by decide) ?_
      exact kt
    · obtain ⟨T36, X36, e36, st36⟩ := getF X33 hx hZ hown (host := "") (Or.inl (hw _ (own_w 13 rfl))) Via.refl e33 f29 (g := (mkF m 35 #[.val (.ref a1), .val (.int (8 : Int32)), .val (.ref b1o), .val (.int (2 : Int32))] [(.ref a1), (.ref b1o)])) rfl rfl (hb hby d20_35)
      obtain ⟨cl37, Ar37, qk37, Sz37, Nn37, Hh37, Gg37⟩ := id (f31)
      have hin38 : ¬ ((2 : Int32) < 0 ∨ cl37.slots.size ≤ ((2 : Int32)).toNatClampNeg) := inb_of Sz37 ⟨by decide, by decide⟩
      have hat38 : cl37.slots[((2 : Int32)).toNatClampNeg]? = some (.long (own_K arr 1)) := Has.at Hh37 hin38 (own_ld arr 2)
      obtain ⟨T39, X39, e39, st39⟩ := getF X36 hx hZ hown (host := "") (Or.inl (hw _ (own_w 13 rfl))) Via.refl e36 f29 (g := (mkF m 41 #[.val (.ref a1), .val (.int (8 : Int32)), .val (.ref b1o), .val (.int (2 : Int32))] [(.ref a1), (.long (own_K arr 1)), (.ref b1o)])) rfl rfl (hb hby d20_41)
      obtain ⟨cl40, Ar40, qk40, Sz40, Nn40, Hh40, Gg40⟩ := id (f31)
      have hin41 : ¬ ((3 : Int32) < 0 ∨ cl40.slots.size ≤ ((3 : Int32)).toNatClampNeg) := inb_of Sz40 ⟨by decide, by decide⟩
      have hat41 : cl40.slots[((3 : Int32)).toNatClampNeg]? = some (.long (own_W arr 1)) := Has.at Hh40 hin41 (own_ld arr 3)
      have hfr : ∃ j, j < 8 ∧ own_K (ar13) j = own_FREE := own_cnt_free (by rw [rp13.2.2.2]; have := own_cnt_le (own_K arr) 1; omega)
      have f43 := (EI4.keep KT13)
      have f44 := (FS4.keep KT13 (ninS net4 nin0))
      have f45 := (FH4.keep KT13 (ninS net4 nin0))
      obtain ⟨cq42, qq42, qq42'⟩ := f43.cell
      obtain ⟨_, _, ⟨T42, Lq42, kq42, nq42⟩, -, X42, ⟨Lc42, hQ42, lq42, yq42, zq42⟩, st42⟩ := X39.privateBack hx (y := (⟨"com/example/pricewright/pricewright/core/LongSumTable", "put", "(JJ)V"⟩ : MethodName)) hown (mvT hZ (hw _ (own_w 57 rfl))) (mvT hZ (hw _ (own_w 58 rfl))) (own_selpriv (mvT hZ (hw _ (own_w 1 rfl))) (Cond.privateMethod_at (mvP hZ (hw _ (own_w 59 rfl)) (args := #[]))) (mvT hZ (hw _ (own_w 58 rfl))) (by decide)) (Cond.privateMethod_at (mvP hZ (hw _ (own_w 59 rfl)) (args := #[]))) (mvT hZ (hw _ (own_w 60 rfl))) (by decide) (backOf (W := 0) (rmP l Z a0 hw [] b1o (own_K arr 1) (own_W arr 1) sa4 sk4 (ar13) 8 (61 : Int32) h13 n0 Z13 (Or.inr ⟨rfl, rfl⟩) f43 f44 f45 AV13 hfr hl13 net4 ga4) hZ (hw _ (own_w 60 rfl)) (hw _ (own_w 2 rfl)) (by decide) (by decide)) (g := (mkF m 48 #[.val (.ref a1), .val (.int (8 : Int32)), .val (.ref b1o), .val (.int (2 : Int32))] [(.long (own_W arr 1)), (.long (own_K arr 1)), (.ref b1o)])) rfl (by rw [hml]; rfl) (Steps.refl _) (a := b1o) (by rw [e39]; exact qq42) qq42' (argsL := [(.long (own_K arr 1)), (.long (own_W arr 1))]) (rest := []) (lenOf pd_3 rfl) rfl (by show 2 * 0 + _ ≤ _; exact Nat.le_of_eq rfl) (hb hby d20_48) (fun _ _ => ⟨rfl, e39, (by decide : 2 + 0 ≤ _), (by decide : 20 + 0 ≤ _)⟩)
      dsimp only [Pt.U, Pt.locs, Pt.cells, Pt.slots] at X42 lq42 yq42 zq42 st42 hQ42
      subst lq42 yq42 zq42
      obtain ⟨rfl, N42q, KC42, u42⟩ := hQ42
      have N42 := Fr.app N13 N42q
      have Z42 : n0 ≤ T42.heap.size := Nat.le_trans Z13 KC42.1
      obtain ⟨i42, hi42, P42, AV42⟩ := u42
      have pp := own_part_put Rp (i := 1) (by decide) hc30 rp13 hi42 P42
      refine ⟨T42, _, ((ar13.set (2 * i42) (own_K arr 1)).set (2 * i42 + 1) (own_W arr 1)), _, X42, rfl, N42, Z42, KC42, by rw [List.length_set, List.length_set]; exact hl13, AV42, by rw [own_Kins hl13 hi42, own_Wins hl13 hi42]; exact pp.2, fun target kt => ?_⟩
      refine XS.iloadN X13.here hx rfl (hb hby d20_11) rfl ?_
      refine XS.aloadN X13.here hx rfl (hb hby d20_12) rfl rfl ?_
      refine st30 _ ?_
      refine X30.arraylength hx (by rw [e30]; exact Ar32.1) (State.isArrayOf_alike hZ.alike Ar32.2.1) (g := (mkF m 16 #[.val (.ref a1), .val (.int (8 : Int32)), .val (.ref b1o), .val (.int (2 : Int32))] [(.ref a), (.int (2 : Int32))])) rfl rfl (hb hby d20_16) _ ?_
      rw [len_of Sz32 Nn32]
      show Steps p.tables e below (T30.setTop (mkF m 17 #[.val (.ref a1), .val (.int (8 : Int32)), .val (.ref b1o), .val (.int (2 : Int32))] [(.int (8 : Int32)), (.int (2 : Int32))])) _
      refine XS.icmpNo X30.here hx rfl (hb hby d20_17) rfl (tlt (by decide)).2.1 ?_
      refine XS.aloadN X30.here hx rfl (hb hby d20_20) rfl rfl ?_
      refine st33 _ ?_
      refine XS.iloadN X33.here hx rfl (hb hby d20_24) rfl ?_
      refine X33.laload hx (j := (2 : Int32)) (v := (.long (own_K arr 1))) (by rw [e33]; exact Ar34.1) (State.isArrayOf_alike hZ.alike Ar34.2.1) Ar34.2.2 hin35 hat35 (g := (mkF m 25 #[.val (.ref a1), .val (.int (8 : Int32)), .val (.ref b1o), .val (.int (2 : Int32))] [(.int (2 : Int32)), (.ref a)])) rfl rfl (hb hby d20_25) _ ?_
      refine X33.ldc2Long hx hown (mvT hZ (hw _ (own_w 15 rfl))) (g := (mkF m 26 #[.val (.ref a1), .val (.int (8 : Int32)), .val (.ref b1o), .val (.int (2 : Int32))] [(.long (own_K arr 1))])) rfl (hb hby d20_26) _ ?_
      refine XS.lcmp X33.here hx rfl (hb hby d20_29) rfl ?_
      refine XS.ifNo X33.here hx rfl (hb hby d20_30) rfl ((if0 _ _).trans (feq (own_lcne hc30)).1) ?_
      refine XS.aloadN X33.here hx rfl (hb hby d20_33) rfl rfl ?_
      refine XS.aloadN X33.here hx rfl (hb hby d20_34) rfl rfl ?_
      refine st36 _ ?_
      refine XS.iloadN X36.here hx rfl (hb hby d20_38) rfl ?_
      refine X36.laload hx (j := (2 : Int32)) (v := (.long (own_K arr 1))) (by rw [e36]; exact Ar37.1) (State.isArrayOf_alike hZ.alike Ar37.2.1) Ar37.2.2 hin38 hat38 (g := (mkF m 39 #[.val (.ref a1), .val (.int (8 : Int32)), .val (.ref b1o), .val (.int (2 : Int32))] [(.int (2 : Int32)), (.ref a), (.ref b1o)])) rfl rfl (hb hby d20_39) _ ?_
      refine XS.aloadN X36.here hx rfl (hb hby d20_40) rfl rfl ?_
      refine st39 _ ?_
      refine XS.iloadN X39.here hx rfl (hb hby d20_44) rfl ?_
      refine XS.iconst X39.here hx rfl (hb hby d20_45) ?_
      refine XS.iadd X39.here hx rfl (hb hby d20_46) rfl ?_
      refine X39.laload hx (j := (3 : Int32)) (v := (.long (own_W arr 1))) (by rw [e39]; exact Ar40.1) (State.isArrayOf_alike hZ.alike Ar40.2.1) Ar40.2.2 hin41 hat41 (g := (mkF m 47 #[.val (.ref a1), .val (.int (8 : Int32)), .val (.ref b1o), .val (.int (2 : Int32))] [(.int (3 : Int32)), (.ref a), (.long (own_K arr 1)), (.ref b1o)])) rfl rfl (hb hby d20_47) _ ?_
      refine st42.trans ?_
      refine XS.iinc X42.here hx rfl (hb hby d20_51) rfl (l' := #[.val (.ref a1), .val (.int (8 : Int32)), .val (.ref b1o), .val (.int (4 : Int32))]) rfl ?_
      refine XS.goto X42.here hx rfl (pc0 := 54) (pc' := 11) rfl (hb hby d20_54) (by decide) (by decide) ?_
      exact kt
  obtain ⟨T28, h28, ar28, L28, X28, e28, N28, Z28, KT28, hl28, AV28, rp28, st28⟩ := tn28
  have K28 : Keep h0 h28 [a1] := K13.trans KT28 (allS (Or.inr (Nat.le_trans K1.1 gk4)) all0)
  have tn46 : ∃ (T' : State) (h' : Heap) (arr2 : List Int64) (L' : List Loc), Stand p l e ({ frames := 3, cells := 2, slots := 20, locals := 44 } : Room) s m #[(.ref a1), (.int (8 : Int32))] below meth c T' L' 2 20 ∧ T'.heap = h' ∧ Fr n0 L' ∧ n0 ≤ h'.size ∧ Keep h28 h' [sa4] ∧ arr2.length = 2 * 8 ∧ Arv Z h' sa4 sk4 .long (16 : Int32) (arr2.map Value.long) (.long (0 : Int64)) ∧ own_Rep (own_K arr2) (own_W arr2) 8 (own_hs 8) (own_Part (own_K arr) 3) (fun x => @ite _ (own_Part (own_K arr) 3 x) (Classical.propDecidable _) (mm x) 0) (own_cnt (own_K arr) 3) ∧ ∀ target, Steps p.tables e below (T'.setTop (mkF m 11 #[.val (.ref a1), .val (.int (8 : Int32)), .val (.ref b1o), .val (.int (6 : Int32))] [])) target → Steps p.tables e below (T28.setTop (mkF m 11 #[.val (.ref a1), .val (.int (8 : Int32)), .val (.ref b1o), .val (.int (4 : Int32))] [])) target := by
    have f47 := (((f6.keep KC4 (ninS ne2 nin0)).keep KT13 (ninS ne11 nin0)).keep KT28 (ninS ne11 nin0))
    obtain ⟨T48, X48, e48, st48⟩ := getF X28 hx hZ hown (host := "") (Or.inl (hw _ (own_w 13 rfl))) Via.refl e28 f47 (g := (mkF m 13 #[.val (.ref a1), .val (.int (8 : Int32)), .val (.ref b1o), .val (.int (4 : Int32))] [(.ref a1), (.int (4 : Int32))])) rfl rfl (hb hby d20_13)
    have f49 := (((f10.keep KC4 (ninS ne3 nin0)).keep KT13 (ninS ne12 nin0)).keep KT28 (ninS ne12 nin0))
    obtain ⟨cl50, Ar50, qk50, Sz50, Nn50, Hh50, Gg50⟩ := id (f49)
    obtain ⟨T51, X51, e51, st51⟩ := getF X48 hx hZ hown (host := "") (Or.inl (hw _ (own_w 13 rfl))) Via.refl e48 f47 (g := (mkF m 21 #[.val (.ref a1), .val (.int (8 : Int32)), .val (.ref b1o), .val (.int (4 : Int32))] [(.ref a1)])) rfl rfl (hb hby d20_21)
    obtain ⟨cl52, Ar52, qk52, Sz52, Nn52, Hh52, Gg52⟩ := id (f49)
    have hin53 : ¬ ((4 : Int32) < 0 ∨ cl52.slots.size ≤ ((4 : Int32)).toNatClampNeg) := inb_of Sz52 ⟨by decide, by decide⟩
    have hat53 : cl52.slots[((4 : Int32)).toNatClampNeg]? = some (.long (own_K arr 2)) := Has.at Hh52 hin53 (own_ld arr 4)
    by_cases hc30 : (own_K arr 2) = (-9223372036854775808 : Int64)
    · refine ⟨T51, _, ar28, _, X51, e51, N28, Z28, Keep.refl _ _, hl28, AV28, own_part_skip rp28 hc30, fun target kt => ?_⟩
      show Steps p.tables e below (T28.setTop (mkF m 11 #[.val (.ref a1), .val (.int (8 : Int32)), .val (.ref b1o), .val (.int (4 : Int32))] [])) _
      refine XS.iloadN X28.here hx rfl (hb hby d20_11) rfl ?_
      refine XS.aloadN X28.here hx rfl (hb hby d20_12) rfl rfl ?_
      refine st48 _ ?_
      refine X48.arraylength hx (by rw [e48]; exact Ar50.1) (State.isArrayOf_alike hZ.alike Ar50.2.1) (g := (mkF m 16 #[.val (.ref a1), .val (.int (8 : Int32)), .val (.ref b1o), .val (.int (4 : Int32))] [(.ref a), (.int (4 : Int32))])) rfl rfl (hb hby d20_16) _ ?_
      rw [len_of Sz50 Nn50]
      show Steps p.tables e below (T48.setTop (mkF m 17 #[.val (.ref a1), .val (.int (8 : Int32)), .val (.ref b1o), .val (.int (4 : Int32))] [(.int (8 : Int32)), (.int (4 : Int32))])) _
      refine XS.icmpNo X48.here hx rfl (hb hby d20_17) rfl (tlt (by decide)).2.1 ?_
      refine XS.aloadN X48.here hx rfl (hb hby d20_20) rfl rfl ?_
      refine st51 _ ?_
      refine XS.iloadN X51.here hx rfl (hb hby d20_24) rfl ?_
      refine X51.laload hx (j := (4 : Int32)) (v := (.long (own_K arr 2))) (by rw [e51]; exact Ar52.1) (State.isArrayOf_alike hZ.alike Ar52.2.1) Ar52.2.2 hin53 hat53 (g := (mkF m 25 #[.val (.ref a1), .val (.int (8 : Int32)), .val (.ref b1o), .val (.int (4 : Int32))] [(.int (4 : Int32)), (.ref a)])) rfl rfl (hb hby d20_25) _ ?_
      refine X51.ldc2Long hx hown (mvT hZ (hw _ (own_w 15 rfl))) (g := (mkF m 26 #[.val (.ref a1), .val (.int (8 : Int32)), .val (.ref b1o), .val (.int (4 : Int32))] [(.long (own_K arr 2))])) rfl (hb hby d20_26) _ ?_
      refine XS.lcmp X51.here hx rfl (hb hby d20_29) rfl ?_
      refine XS.ifYes X51.here hx rfl (pc0 := 30) (pc' := 51) rfl (hb hby d20_30) rfl ((if0 _ _).trans (teq (own_lceq hc30)).1) (by decide) (by decide) ?_
      refine XS.iinc X51.here hx rfl (hb hby d20_51) rfl (l' := #[.val (.ref a1), .val (.int (8 : Int32)), .val (.ref b1o), .val (.int (6 : Int32))]) rfl ?_
      refine XS.goto X51.here hx rfl (pc0 := 54) (pc' := 11) rfl (hb hby d20_54) (by decide) (by decide) ?_
      exact kt
    · obtain ⟨T54, X54, e54, st54⟩ := getF X51 hx hZ hown (host := "") (Or.inl (hw _ (own_w 13 rfl))) Via.refl e51 f47 (g := (mkF m 35 #[.val (.ref a1), .val (.int (8 : Int32)), .val (.ref b1o), .val (.int (4 : Int32))] [(.ref a1), (.ref b1o)])) rfl rfl (hb hby d20_35)
      obtain ⟨cl55, Ar55, qk55, Sz55, Nn55, Hh55, Gg55⟩ := id (f49)
      have hin56 : ¬ ((4 : Int32) < 0 ∨ cl55.slots.size ≤ ((4 : Int32)).toNatClampNeg) := inb_of Sz55 ⟨by decide, by decide⟩
      have hat56 : cl55.slots[((4 : Int32)).toNatClampNeg]? = some (.long (own_K arr 2)) := Has.at Hh55 hin56 (own_ld arr 4)
      obtain ⟨T57, X57, e57, st57⟩ := getF X54 hx hZ hown (host := "") (Or.inl (hw _ (own_w 13 rfl))) Via.refl e54 f47 (g := (mkF m 41 #[.val (.ref a1), .val (.int (8 : Int32)), .val (.ref b1o), .val (.int (4 : Int32))] [(.ref a1), (.long (own_K arr 2)), (.ref b1o)])) rfl rfl (hb hby d20_41)
      obtain ⟨cl58, Ar58, qk58, Sz58, Nn58, Hh58, Gg58⟩ := id (f49)
      have hin59 : ¬ ((5 : Int32) < 0 ∨ cl58.slots.size ≤ ((5 : Int32)).toNatClampNeg) := inb_of Sz58 ⟨by decide, by decide⟩
      have hat59 : cl58.slots[((5 : Int32)).toNatClampNeg]? = some (.long (own_W arr 2)) := Has.at Hh58 hin59 (own_ld arr 5)
      have hfr : ∃ j, j < 8 ∧ own_K (ar28) j = own_FREE := own_cnt_free (by rw [rp28.2.2.2]; have := own_cnt_le (own_K arr) 2; omega)
      have f61 := ((EI4.keep KT13).keep KT28)
      have f62 := ((FS4.keep KT13 (ninS net4 nin0)).keep KT28 (ninS net4 nin0))
      have f63 := ((FH4.keep KT13 (ninS net4 nin0)).keep KT28 (ninS net4 nin0))
      obtain ⟨cq60, qq60, qq60'⟩ := f61.cell
      obtain ⟨_, _, ⟨T60, Lq60, kq60, nq60⟩, -, X60, ⟨Lc60, hQ60, lq60, yq60, zq60⟩, st60⟩ := X57.privateBack hx (y := (⟨"com/example/pricewright/pricewright/core/LongSumTable", "put", "(JJ)V"⟩ : MethodName)) hown (mvT hZ (hw _ (own_w 57 rfl))) (mvT hZ (hw _ (own_w 58 rfl))) (own_selpriv (mvT hZ (hw _ (own_w 1 rfl))) (Cond.privateMethod_at (mvP hZ (hw _ (own_w 59 rfl)) (args := #[]))) (mvT hZ (hw _ (own_w 58 rfl))) (by decide)) (Cond.privateMethod_at (mvP hZ (hw _ (own_w 59 rfl)) (args := #[]))) (mvT hZ (hw _ (own_w 60 rfl))) (by decide) (backOf (W := 0) (rmP l Z a0 hw [] b1o (own_K arr 2) (own_W arr 2) sa4 sk4 (ar28) 8 (61 : Int32) h28 n0 Z28 (Or.inr ⟨rfl, rfl⟩) f61 f62 f63 AV28 hfr hl28 net4 ga4) hZ (hw _ (own_w 60 rfl)) (hw _ (own_w 2 rfl)) (by decide) (by decide)) (g := (mkF m 48 #[.val (.ref a1), .val (.int (8 : Int32)), .val (.ref b1o), .val (.int (4 : Int32))] [(.long (own_W arr 2)), (.long (own_K arr 2)), (.ref b1o)])) rfl (by rw [hml]; rfl) (Steps.refl _) (a := b1o) (by rw [e57]; exact qq60) qq60' (argsL := [(.long (own_K arr 2)), (.long (own_W arr 2))]) (rest := []) (lenOf pd_3 rfl) rfl (by show 2 * 0 + _ ≤ _; exact Nat.le_of_eq rfl) (hb hby d20_48) (fun _ _ => ⟨rfl, e57, (by decide : 2 + 0 ≤ _), (by decide : 20 + 0 ≤ _)⟩)
      dsimp only [Pt.U, Pt.locs, Pt.cells, Pt.slots] at X60 lq60 yq60 zq60 st60 hQ60
      subst lq60 yq60 zq60
      obtain ⟨rfl, N60q, KC60, u60⟩ := hQ60
      have N60 := Fr.app N28 N60q
      have Z60 : n0 ≤ T60.heap.size := Nat.le_trans Z28 KC60.1
      obtain ⟨i60, hi60, P60, AV60⟩ := u60
      have pp := own_part_put Rp (i := 2) (by decide) hc30 rp28 hi60 P60
      refine ⟨T60, _, ((ar28.set (2 * i60) (own_K arr 2)).set (2 * i60 + 1) (own_W arr 2)), _, X60, rfl, N60, Z60, KC60, by rw [List.length_set, List.length_set]; exact hl28, AV60, by rw [own_Kins hl28 hi60, own_Wins hl28 hi60]; exact pp.2, fun target kt => ?_⟩
      refine XS.iloadN X28.here hx rfl (hb hby d20_11) rfl ?_
      refine XS.aloadN X28.here hx rfl (hb hby d20_12) rfl rfl ?_
      refine st48 _ ?_
      refine X48.arraylength hx (by rw [e48]; exact Ar50.1) (State.isArrayOf_alike hZ.alike Ar50.2.1) (g := (mkF m 16 #[.val (.ref a1), .val (.int (8 : Int32)), .val (.ref b1o), .val (.int (4 : Int32))] [(.ref a), (.int (4 : Int32))])) rfl rfl (hb hby d20_16) _ ?_
      rw [len_of Sz50 Nn50]
      show Steps p.tables e below (T48.setTop (mkF m 17 #[.val (.ref a1), .val (.int (8 : Int32)), .val (.ref b1o), .val (.int (4 : Int32))] [(.int (8 : Int32)), (.int (4 : Int32))])) _
      refine XS.icmpNo X48.here hx rfl (hb hby d20_17) rfl (tlt (by decide)).2.1 ?_
      refine XS.aloadN X48.here hx rfl (hb hby d20_20) rfl rfl ?_
      refine st51 _ ?_
      refine XS.iloadN X51.here hx rfl (hb hby d20_24) rfl ?_
      refine X51.laload hx (j := (4 : Int32)) (v := (.long (own_K arr 2))) (by rw [e51]; exact Ar52.1) (State.isArrayOf_alike hZ.alike Ar52.2.1) Ar52.2.2 hin53 hat53 (g := (mkF m 25 #[.val (.ref a1), .val (.int (8 : Int32)), .val (.ref b1o), .val (.int (4 : Int32))] [(.int (4 : Int32)), (.ref a)])) rfl rfl (hb hby d20_25) _ ?_
      refine X51.ldc2Long hx hown (mvT hZ (hw _ (own_w 15 rfl))) (g := (mkF m 26 #[.val (.ref a1), .val (.int (8 : Int32)), .val (.ref b1o), .val (.int (4 : Int32))] [(.long (own_K arr 2))])) rfl (hb hby d20_26) _ ?_
      refine XS.lcmp X51.here hx rfl (hb hby d20_29) rfl ?_
      refine XS.ifNo X51.here hx rfl (hb hby d20_30) rfl ((if0 _ _).trans (feq (own_lcne hc30)).1) ?_
      refine XS.aloadN X51.here hx rfl (hb hby d20_33) rfl rfl ?_
      refine XS.aloadN X51.here hx rfl (hb hby d20_34) rfl rfl ?_
      refine st54 _ ?_
      refine XS.iloadN X54.here hx rfl (hb hby d20_38) rfl ?_
      refine X54.laload hx (j := (4 : Int32)) (v := (.long (own_K arr 2))) (by rw [e54]; exact Ar55.1) (State.isArrayOf_alike hZ.alike Ar55.2.1) Ar55.2.2 hin56 hat56 (g := (mkF m 39 #[.val (.ref a1), .val (.int (8 : Int32)), .val (.ref b1o), .val (.int (4 : Int32))] [(.int (4 : Int32)), (.ref a), (.ref b1o)])) rfl rfl (hb hby d20_39) _ ?_
      refine XS.aloadN X54.here hx rfl (hb hby d20_40) rfl rfl ?_
      refine st57 _ ?_
      refine XS.iloadN X57.here hx rfl (hb hby d20_44) rfl ?_
      refine XS.iconst X57.here hx rfl (hb hby d20_45) ?_
      refine XS.iadd X57.here hx rfl (hb hby d20_46) rfl ?_
      refine X57.laload hx (j := (5 : Int32)) (v := (.long (own_W arr 2))) (by rw [e57]; exact Ar58.1) (State.isArrayOf_alike hZ.alike Ar58.2.1) Ar58.2.2 hin59 hat59 (g := (mkF m 47 #[.val (.ref a1), .val (.int (8 : Int32)), .val (.ref b1o), .val (.int (4 : Int32))] [(.int (5 : Int32)), (.ref a), (.long (own_K arr 2)), (.ref b1o)])) rfl rfl (hb hby d20_47) _ ?_
      refine st60.trans ?_
      refine XS.iinc X60.here hx rfl (hb hby d20_51) rfl (l' := #[.val (.ref a1), .val (.int (8 : Int32)), .val (.ref b1o), .val (.int (6 : Int32))]) rfl ?_
      refine XS.goto X60.here hx rfl (pc0 := 54) (pc' := 11) rfl (hb hby d20_54) (by decide) (by decide) ?_
      exact kt
  obtain ⟨T46, h46, ar46, L46, X46, e46, N46, Z46, KT46, hl46, AV46, rp46, st46⟩ := tn46
  have K46 : Keep h0 h46 [a1] := K28.trans KT46 (allS (Or.inr (Nat.le_trans K1.1 gk4)) all0)
  have tn64 : ∃ (T' : State) (h' : Heap) (arr2 : List Int64) (L' : List Loc), Stand p l e ({ frames := 3, cells := 2, slots := 20, locals := 44 } : Room) s m #[(.ref a1), (.int (8 : Int32))] below meth c T' L' 2 20 ∧ T'.heap = h' ∧ Fr n0 L' ∧ n0 ≤ h'.size ∧ Keep h46 h' [sa4] ∧ arr2.length = 2 * 8 ∧ Arv Z h' sa4 sk4 .long (16 : Int32) (arr2.map Value.long) (.long (0 : Int64)) ∧ own_Rep (own_K arr2) (own_W arr2) 8 (own_hs 8) (own_Part (own_K arr) 4) (fun x => @ite _ (own_Part (own_K arr) 4 x) (Classical.propDecidable _) (mm x) 0) (own_cnt (own_K arr) 4) ∧ ∀ target, Steps p.tables e below (T'.setTop (mkF m 11 #[.val (.ref a1), .val (.int (8 : Int32)), .val (.ref b1o), .val (.int (8 : Int32))] [])) target → Steps p.tables e below (T46.setTop (mkF m 11 #[.val (.ref a1), .val (.int (8 : Int32)), .val (.ref b1o), .val (.int (6 : Int32))] [])) target := by
    have f65 := ((((f6.keep KC4 (ninS ne2 nin0)).keep KT13 (ninS ne11 nin0)).keep KT28 (ninS ne11 nin0)).keep KT46 (ninS ne11 nin0))
    obtain ⟨T66, X66, e66, st66⟩ := getF X46 hx hZ hown (host := "") (Or.inl (hw _ (own_w 13 rfl))) Via.refl e46 f65 (g := (mkF m 13 #[.val (.ref a1), .val (.int (8 : Int32)), .val (.ref b1o), .val (.int (6 : Int32))] [(.ref a1), (.int (6 : Int32))])) rfl rfl (hb hby d20_13)
    have f67 := ((((f10.keep KC4 (ninS ne3 nin0)).keep KT13 (ninS ne12 nin0)).keep KT28 (ninS ne12 nin0)).keep KT46 (ninS ne12 nin0))
    obtain ⟨cl68, Ar68, qk68, Sz68, Nn68, Hh68, Gg68⟩ := id (f67)
    obtain ⟨T69, X69, e69, st69⟩ := getF X66 hx hZ hown (host := "") (Or.inl (hw _ (own_w 13 rfl))) Via.refl e66 f65 (g := (mkF m 21 #[.val (.ref a1), .val (.int (8 : Int32)), .val (.ref b1o), .val (.int (6 : Int32))] [(.ref a1)])) rfl rfl (hb hby d20_21)
    obtain ⟨cl70, Ar70, qk70, Sz70, Nn70, Hh70, Gg70⟩ := id (f67)
    have hin71 : ¬ ((6 : Int32) < 0 ∨ cl70.slots.size ≤ ((6 : Int32)).toNatClampNeg) := inb_of Sz70 ⟨by decide, by decide⟩
    have hat71 : cl70.slots[((6 : Int32)).toNatClampNeg]? = some (.long (own_K arr 3)) := Has.at Hh70 hin71 (own_ld arr 6)
    by_cases hc30 : (own_K arr 3) = (-9223372036854775808 : Int64)
    · refine ⟨T69, _, ar46, _, X69, e69, N46, Z46, Keep.refl _ _, hl46, AV46, own_part_skip rp46 hc30, fun target kt => ?_⟩
      show Steps p.tables e below (T46.setTop (mkF m 11 #[.val (.ref a1), .val (.int (8 : Int32)), .val (.ref b1o), .val (.int (6 : Int32))] [])) _
      refine XS.iloadN X46.here hx rfl (hb hby d20_11) rfl ?_
      refine XS.aloadN X46.here hx rfl (hb hby d20_12) rfl rfl ?_
      refine st66 _ ?_
      refine X66.arraylength hx (by rw [e66]; exact Ar68.1) (State.isArrayOf_alike hZ.alike Ar68.2.1) (g := (mkF m 16 #[.val (.ref a1), .val (.int (8 : Int32)), .val (.ref b1o), .val (.int (6 : Int32))] [(.ref a), (.int (6 : Int32))])) rfl rfl (hb hby d20_16) _ ?_
      rw [len_of Sz68 Nn68]
      show Steps p.tables e below (T66.setTop (mkF m 17 #[.val (.ref a1), .val (.int (8 : Int32)), .val (.ref b1o), .val (.int (6 : Int32))] [(.int (8 : Int32)), (.int (6 : Int32))])) _
      refine XS.icmpNo X66.here hx rfl (hb hby d20_17) rfl (tlt (by decide)).2.1 ?_
      refine XS.aloadN X66.here hx rfl (hb hby d20_20) rfl rfl ?_
      refine st69 _ ?_
      refine XS.iloadN X69.here hx rfl (hb hby d20_24) rfl ?_
      refine X69.laload hx (j := (6 : Int32)) (v := (.long (own_K arr 3))) (by rw [e69]; exact Ar70.1) (State.isArrayOf_alike hZ.alike Ar70.2.1) Ar70.2.2 hin71 hat71 (g := (mkF m 25 #[.val (.ref a1), .val (.int (8 : Int32)), .val (.ref b1o), .val (.int (6 : Int32))] [(.int (6 : Int32)), (.ref a)])) rfl rfl (hb hby d20_25) _ ?_
      refine X69.ldc2Long hx hown (mvT hZ (hw _ (own_w 15 rfl))) (g := (mkF m 26 #[.val (.ref a1), .val (.int (8 : Int32)), .val (.ref b1o), .val (.int (6 : Int32))] [(.long (own_K arr 3))])) rfl (hb hby d20_26) _ ?_
      refine XS.lcmp X69.here hx rfl (hb hby d20_29) rfl ?_
      refine XS.ifYes X69.here hx rfl (pc0 := 30) (pc' := 51) rfl (hb hby d20_30) rfl ((if0 _ _).trans (teq (own_lceq hc30)).1) (by decide) (by decide) ?_
      refine XS.iinc X69.here hx rfl (hb hby d20_51) rfl (l' := #[.val (.ref a1), .val (.int (8 : Int32)), .val (.ref b1o), .val (.int (8 : Int32))]) rfl ?_
      refine XS.goto X69.here hx rfl (pc0 := 54) (pc' := 11) rfl (hb hby d20_54) (by decide) (by decide) ?_
      exact kt
    · obtain ⟨T72, X72, e72, st72⟩ := getF X69 hx hZ hown (host := "") (Or.inl (hw _ (own_w 13 rfl))) Via.refl e69 f65 (g := (mkF m 35 #[.val (.ref a1), .val (.int (8 : Int32)), .val (.ref b1o), .val (.int (6 : Int32))] [(.ref a1), (.ref b1o)])) rfl rfl (hb hby d20_35)
      obtain ⟨cl73, Ar73, qk73, Sz73, Nn73, Hh73, Gg73⟩ := id (f67)
      have hin74 : ¬ ((6 : Int32) < 0 ∨ cl73.slots.size ≤ ((6 : Int32)).toNatClampNeg) := inb_of Sz73 ⟨by decide, by decide⟩
      have hat74 : cl73.slots[((6 : Int32)).toNatClampNeg]? = some (.long (own_K arr 3)) := Has.at Hh73 hin74 (own_ld arr 6)
      obtain ⟨T75, X75, e75, st75⟩ := getF X72 hx hZ hown (host := "") (Or.inl (hw _ (own_w 13 rfl))) Via.refl e72 f65 (g := (mkF m 41 #[.val (.ref a1), .val (.int (8 : Int32)), .val (.ref b1o), .val (.int (6 : Int32))] [(.ref a1), (.long (own_K arr 3)), (.ref b1o)])) rfl rfl (hb hby d20_41)
      obtain ⟨cl76, Ar76, qk76, Sz76, Nn76, Hh76, Gg76⟩ := id (f67)
      have hin77 : ¬ ((7 : Int32) < 0 ∨ cl76.slots.size ≤ ((7 : Int32)).toNatClampNeg) := inb_of Sz76 ⟨by decide, by decide⟩
      have hat77 : cl76.slots[((7 : Int32)).toNatClampNeg]? = some (.long (own_W arr 3)) := Has.at Hh76 hin77 (own_ld arr 7)
      have hfr : ∃ j, j < 8 ∧ own_K (ar46) j = own_FREE := own_cnt_free (by rw [rp46.2.2.2]; have := own_cnt_le (own_K arr) 3; omega)
      have f79 := (((EI4.keep KT13).keep KT28).keep KT46)
      have f80 := (((FS4.keep KT13 (ninS net4 nin0)).keep KT28 (ninS net4 nin0)).keep KT46 (ninS net4 nin0))
      have f81 := (((FH4.keep KT13 (ninS net4 nin0)).keep KT28 (ninS net4 nin0)).keep KT46 (ninS net4 nin0))
      obtain ⟨cq78, qq78, qq78'⟩ := f79.cell
      obtain ⟨_, _, ⟨T78, Lq78, kq78, nq78⟩, -, X78, ⟨Lc78, hQ78, lq78, yq78, zq78⟩, st78⟩ := X75.privateBack hx (y := (⟨"com/example/pricewright/pricewright/core/LongSumTable", "put", "(JJ)V"⟩ : MethodName)) hown (mvT hZ (hw _ (own_w 57 rfl))) (mvT hZ (hw _ (own_w 58 rfl))) (own_selpriv (mvT hZ (hw _ (own_w 1 rfl))) (Cond.privateMethod_at (mvP hZ (hw _ (own_w 59 rfl)) (args := #[]))) (mvT hZ (hw _ (own_w 58 rfl))) (by decide)) (Cond.privateMethod_at (mvP hZ (hw _ (own_w 59 rfl)) (args := #[]))) (mvT hZ (hw _ (own_w 60 rfl))) (by decide) (backOf (W := 0) (rmP l Z a0 hw [] b1o (own_K arr 3) (own_W arr 3) sa4 sk4 (ar46) 8 (61 : Int32) h46 n0 Z46 (Or.inr ⟨rfl, rfl⟩) f79 f80 f81 AV46 hfr hl46 net4 ga4) hZ (hw _ (own_w 60 rfl)) (hw _ (own_w 2 rfl)) (by decide) (by decide)) (g := (mkF m 48 #[.val (.ref a1), .val (.int (8 : Int32)), .val (.ref b1o), .val (.int (6 : Int32))] [(.long (own_W arr 3)), (.long (own_K arr 3)), (.ref b1o)])) rfl (by rw [hml]; rfl) (Steps.refl _) (a := b1o) (by rw [e75]; exact qq78) qq78' (argsL := [(.long (own_K arr 3)), (.long (own_W arr 3))]) (rest := []) (lenOf pd_3 rfl) rfl (by show 2 * 0 + _ ≤ _; exact Nat.le_of_eq rfl) (hb hby d20_48) (fun _ _ => ⟨rfl, e75, (by decide : 2 + 0 ≤ _), (by decide : 20 + 0 ≤ _)⟩)
      dsimp only [Pt.U, Pt.locs, Pt.cells, Pt.slots] at X78 lq78 yq78 zq78 st78 hQ78
      subst lq78 yq78 zq78
      obtain ⟨rfl, N78q, KC78, u78⟩ := hQ78
      have N78 := Fr.app N46 N78q
      have Z78 : n0 ≤ T78.heap.size := Nat.le_trans Z46 KC78.1
      obtain ⟨i78, hi78, P78, AV78⟩ := u78
      have pp := own_part_put Rp (i := 3) (by decide) hc30 rp46 hi78 P78
      refine ⟨T78, _, ((ar46.set (2 * i78) (own_K arr 3)).set (2 * i78 + 1) (own_W arr 3)), _, X78, rfl, N78, Z78, KC78, by rw [List.length_set, List.length_set]; exact hl46, AV78, by rw [own_Kins hl46 hi78, own_Wins hl46 hi78]; exact pp.2, fun target kt => ?_⟩
      refine XS.iloadN X46.here hx rfl (hb hby d20_11) rfl ?_
      refine XS.aloadN X46.here hx rfl (hb hby d20_12) rfl rfl ?_
      refine st66 _ ?_
      refine X66.arraylength hx (by rw [e66]; exact Ar68.1) (State.isArrayOf_alike hZ.alike Ar68.2.1) (g := (mkF m 16 #[.val (.ref a1), .val (.int (8 : Int32)), .val (.ref b1o), .val (.int (6 : Int32))] [(.ref a), (.int (6 : Int32))])) rfl rfl (hb hby d20_16) _ ?_
      rw [len_of Sz68 Nn68]
      show Steps p.tables e below (T66.setTop (mkF m 17 #[.val (.ref a1), .val (.int (8 : Int32)), .val (.ref b1o), .val (.int (6 : Int32))] [(.int (8 : Int32)), (.int (6 : Int32))])) _
      refine XS.icmpNo X66.here hx rfl (hb hby d20_17) rfl (tlt (by decide)).2.1 ?_
      refine XS.aloadN X66.here hx rfl (hb hby d20_20) rfl rfl ?_
      refine st69 _ ?_
      refine XS.iloadN X69.here hx rfl (hb hby d20_24) rfl ?_
      refine X69.laload hx (j := (6 : Int32)) (v := (.long (own_K arr 3))) (by rw [e69]; exact Ar70.1) (State.isArrayOf_alike hZ.alike Ar70.2.1) Ar70.2.2 hin71 hat71 (g := (mkF m 25 #[.val (.ref a1), .val (.int (8 : Int32)), .val (.ref b1o), .val (.int (6 : Int32))] [(.int (6 : Int32)), (.ref a)])) rfl rfl (hb hby d20_25) _ ?_
      refine X69.ldc2Long hx hown (mvT hZ (hw _ (own_w 15 rfl))) (g := (mkF m 26 #[.val (.ref a1), .val (.int (8 : Int32)), .val (.ref b1o), .val (.int (6 : Int32))] [(.long (own_K arr 3))])) rfl (hb hby d20_26) _ ?_
      refine XS.lcmp X69.here hx rfl (hb hby d20_29) rfl ?_
      refine XS.ifNo X69.here hx rfl (hb hby d20_30) rfl ((if0 _ _).trans (feq (own_lcne hc30)).1) ?_
      refine XS.aloadN X69.here hx rfl (hb hby d20_33) rfl rfl ?_
      refine XS.aloadN X69.here hx rfl (hb hby d20_34) rfl rfl ?_
      refine st72 _ ?_
      refine XS.iloadN X72.here hx rfl (hb hby d20_38) rfl ?_
      refine X72.laload hx (j := (6 : Int32)) (v := (.long (own_K arr 3))) (by rw [e72]; exact Ar73.1) (State.isArrayOf_alike hZ.alike Ar73.2.1) Ar73.2.2 hin74 hat74 (g := (mkF m 39 #[.val (.ref a1), .val (.int (8 : Int32)), .val (.ref b1o), .val (.int (6 : Int32))] [(.int (6 : Int32)), (.ref a), (.ref b1o)])) rfl rfl (hb hby d20_39) _ ?_
      refine XS.aloadN X72.here hx rfl (hb hby d20_40) rfl rfl ?_
      refine st75 _ ?_
      refine XS.iloadN X75.here hx rfl (hb hby d20_44) rfl ?_
      refine XS.iconst X75.here hx rfl (hb hby d20_45) ?_
      refine XS.iadd X75.here hx rfl (hb hby d20_46) rfl ?_
      refine X75.laload hx (j := (7 : Int32)) (v := (.long (own_W arr 3))) (by rw [e75]; exact Ar76.1) (State.isArrayOf_alike hZ.alike Ar76.2.1) Ar76.2.2 hin77 hat77 (g := (mkF m 47 #[.val (.ref a1), .val (.int (8 : Int32)), .val (.ref b1o), .val (.int (6 : Int32))] [(.int (7 : Int32)), (.ref a), (.long (own_K arr 3)), (.ref b1o)])) rfl rfl (hb hby d20_47) _ ?_
      refine st78.trans ?_
      refine XS.iinc X78.here hx rfl (hb hby d20_51) rfl (l' := #[.val (.ref a1), .val (.int (8 : Int32)), .val (.ref b1o), .val (.int (8 : Int32))]) rfl ?_
      refine XS.goto X78.here hx rfl (pc0 := 54) (pc' := 11) rfl (hb hby d20_54) (by decide) (by decide) ?_
      exact kt
  obtain ⟨T64, h64, ar64, L64, X64, e64, N64, Z64, KT64, hl64, AV64, rp64, st64⟩ := tn64
  have K64 : Keep h0 h64 [a1] := K46.trans KT64 (allS (Or.inr (Nat.le_trans K1.1 gk4)) all0)
  have f82 := (((((f6.keep KC4 (ninS ne2 nin0)).keep KT13 (ninS ne11 nin0)).keep KT28 (ninS ne11 nin0)).keep KT46 (ninS ne11 nin0)).keep KT64 (ninS ne11 nin0))
  obtain ⟨T83, X83, e83, st83⟩ := getF X64 hx hZ hown (host := "") (Or.inl (hw _ (own_w 13 rfl))) Via.refl e64 f82 (g := (mkF m 13 #[.val (.ref a1), .val (.int (8 : Int32)), .val (.ref b1o), .val (.int (8 : Int32))] [(.ref a1), (.int (8 : Int32))])) rfl rfl (hb hby d20_13)
  have f84 := (((((f10.keep KC4 (ninS ne3 nin0)).keep KT13 (ninS ne12 nin0)).keep KT28 (ninS ne12 nin0)).keep KT46 (ninS ne12 nin0)).keep KT64 (ninS ne12 nin0))
  obtain ⟨cl85, Ar85, qk85, Sz85, Nn85, Hh85, Gg85⟩ := id (f84)
  have f86 := ((((FS4.keep KT13 (ninS net4 nin0)).keep KT28 (ninS net4 nin0)).keep KT46 (ninS net4 nin0)).keep KT64 (ninS net4 nin0))
  obtain ⟨T87, X87, e87, st87⟩ := getF X83 hx hZ hown (host := "") (Or.inl (hw _ (own_w 13 rfl))) Via.refl e83 f86 (g := (mkF m 59 #[.val (.ref a1), .val (.int (8 : Int32)), .val (.ref b1o), .val (.int (8 : Int32))] [(.ref b1o), (.ref a1)])) rfl rfl (hb hby d20_59)
  have f88 := (((((f5.keep KC4).keep KT13).keep KT28).keep KT46).keep KT64)
  obtain ⟨T89, h89, X89, e89, W89, st89⟩ := putF X87 hx hZ hown (host := "") (Or.inl (hw _ (own_w 13 rfl))) Via.refl e87 f82 f88 (Or.inl (hw _ (own_w 14 rfl))) (hw _ (own_w 1 rfl)) (ty := (.array .long)) (by decide) rfl rfl (g := (mkF m 62 #[.val (.ref a1), .val (.int (8 : Int32)), .val (.ref b1o), .val (.int (8 : Int32))] [(.ref sa4), (.ref a1)])) rfl rfl (hb hby d20_62)
  have N89 := Fr.snoc X89 N64 ga1
  have Z89 : n0 ≤ h89.size := by rw [W89.size]; exact Z64
  have K89 : Keep h0 h89 [a1] := K64.wr W89 (Or.inl (own_w 0 rfl))
  have Fw89 := f82.same W89
  have f90 := (((((FH4.keep KT13 (ninS net4 nin0)).keep KT28 (ninS net4 nin0)).keep KT46 (ninS net4 nin0)).keep KT64 (ninS net4 nin0)).other W89 (Or.inl (Ne.symm ne2)))
  obtain ⟨T91, X91, e91, st91⟩ := getF X89 hx hZ hown (host := "") (Or.inl (hw _ (own_w 25 rfl))) Via.refl e89 f90 (g := (mkF m 67 #[.val (.ref a1), .val (.int (8 : Int32)), .val (.ref b1o), .val (.int (8 : Int32))] [(.ref b1o), (.ref a1)])) rfl rfl (hb hby d20_67)
  have f92 := (f88.wr W89)
  have f93 := ((((((f7.keep KC4 (ninS ne2 nin0)).keep KT13 (ninS ne11 nin0)).keep KT28 (ninS ne11 nin0)).keep KT46 (ninS ne11 nin0)).keep KT64 (ninS ne11 nin0)).other W89 (Or.inr (slot_ne (Or.inl (hw _ (own_w 26 rfl))) (Or.inl (hw _ (own_w 14 rfl))) (by decide) (t := .int) (t' := (.array .long)) (by decide) (by decide))))
  obtain ⟨T94, h94, X94, e94, W94, st94⟩ := putF X91 hx hZ hown (host := "") (Or.inl (hw _ (own_w 25 rfl))) Via.refl e91 f93 f92 (Or.inl (hw _ (own_w 26 rfl))) (hw _ (own_w 1 rfl)) (ty := .int) (by decide) rfl rfl (g := (mkF m 70 #[.val (.ref a1), .val (.int (8 : Int32)), .val (.ref b1o), .val (.int (8 : Int32))] [(.int (61 : Int32)), (.ref a1)])) rfl rfl (hb hby d20_70)
  have N94 := Fr.snoc X94 N89 ga1
  have Z94 : n0 ≤ h94.size := by rw [W94.size]; exact Z89
  have K94 : Keep h0 h94 [a1] := K89.wr W94 (Or.inl (own_w 0 rfl))
  have Fw94 := f93.same W94
  obtain ⟨fs, hr, hrun, hended, hW, hsame⟩ := X94.leave (v := none) (fun _ => rfl) (BodyLoose.notSynchronized Bd)
  refine ⟨_, _, pre0 _ ?_, hrun, hended, _, _, rfl, ?_, ⟨_, rfl⟩, hW, hsame.mono (by decide) (by decide)⟩
  · show Steps p.tables e below (s₁.setTop (mkF m 0 #[.val (.ref a1), .val (.int (8 : Int32)), .unset, .unset] [])) _
    refine st1 _ ?_
    refine XS.dup X1.here hx rfl (hb hby d20_3) rfl rfl ?_
    refine XS.iloadN X1.here hx rfl (hb hby d20_4) rfl ?_
    refine st4.trans ?_
    refine XS.astoreN X4.here hx rfl (hb hby d20_8) rfl rfl (l' := #[.val (.ref a1), .val (.int (8 : Int32)), .val (.ref b1o), .unset]) rfl ?_
    refine XS.iconst X4.here hx rfl (hb hby d20_9) ?_
    refine XS.istoreN X4.here hx rfl (hb hby d20_10) rfl (l' := #[.val (.ref a1), .val (.int (8 : Int32)), .val (.ref b1o), .val (.int (0 : Int32))]) rfl ?_
    refine st13 _ ?_
    refine st28 _ ?_
    refine st46 _ ?_
    refine st64 _ ?_
    refine XS.iloadN X64.here hx rfl (hb hby d20_11) rfl ?_
    refine XS.aloadN X64.here hx rfl (hb hby d20_12) rfl rfl ?_
    refine st83 _ ?_
    refine X83.arraylength hx (by rw [e83]; exact Ar85.1) (State.isArrayOf_alike hZ.alike Ar85.2.1) (g := (mkF m 16 #[.val (.ref a1), .val (.int (8 : Int32)), .val (.ref b1o), .val (.int (8 : Int32))] [(.ref a), (.int (8 : Int32))])) rfl rfl (hb hby d20_16) _ ?_
    rw [len_of Sz85 Nn85]
    show Steps p.tables e below (T83.setTop (mkF m 17 #[.val (.ref a1), .val (.int (8 : Int32)), .val (.ref b1o), .val (.int (8 : Int32))] [(.int (8 : Int32)), (.int (8 : Int32))])) _
    refine XS.icmpYes X83.here hx rfl (pc0 := 17) (pc' := 57) rfl (hb hby d20_17) rfl (flt (by decide)).2.1 (by decide) (by decide) ?_
    refine XS.aloadN X83.here hx rfl (hb hby d20_57) rfl rfl ?_
    refine XS.aloadN X83.here hx rfl (hb hby d20_58) rfl rfl ?_
    refine st87 _ ?_
    refine st89 _ ?_
    refine XS.aloadN X89.here hx rfl (hb hby d20_65) rfl rfl ?_
    refine XS.aloadN X89.here hx rfl (hb hby d20_66) rfl rfl ?_
    refine st91 _ ?_
    refine st94 _ ?_
    show Steps p.tables e below (T94.setTop (mkF m 73 #[.val (.ref a1), .val (.int (8 : Int32)), .val (.ref b1o), .val (.int (8 : Int32))] [])) _
    exact X94.returnOut hx Bd.returns (hb hby d20_73) hr
  · show QrmR Z a1 a k arr zi D mm sz h0 n0 _ T94.heap _
    have f95 := (f92.wr W94)
    have f96 := (Fw89.other W94 (Or.inr (slot_ne (Or.inl (hw _ (own_w 14 rfl))) (Or.inl (hw _ (own_w 26 rfl))) (by decide) (t := (.array .long)) (t' := .int) (by decide) (by decide))))
    have f97 := (((((((f8.keep KC4 (ninS ne2 nin0)).keep KT13 (ninS ne11 nin0)).keep KT28 (ninS ne11 nin0)).keep KT46 (ninS ne11 nin0)).keep KT64 (ninS ne11 nin0)).other W89 (Or.inr (slot_ne (Or.inl (hw _ (own_w 43 rfl))) (Or.inl (hw _ (own_w 14 rfl))) (by decide) (t := .int) (t' := (.array .long)) (by decide) (by decide)))).other W94 (Or.inr (slot_ne (Or.inl (hw _ (own_w 43 rfl))) (Or.inl (hw _ (own_w 26 rfl))) (by decide) (t := .int) (t' := .int) (by decide) (by decide))))
    have f98 := (((((((f9.keep KC4 (ninS ne2 nin0)).keep KT13 (ninS ne11 nin0)).keep KT28 (ninS ne11 nin0)).keep KT46 (ninS ne11 nin0)).keep KT64 (ninS ne11 nin0)).other W89 (Or.inr (slot_ne (Or.inl (hw _ (own_w 41 rfl))) (Or.inl (hw _ (own_w 14 rfl))) (by decide) (t := (.array .long)) (t' := (.array .long)) (by decide) (by decide)))).other W94 (Or.inr (slot_ne (Or.inl (hw _ (own_w 41 rfl))) (Or.inl (hw _ (own_w 26 rfl))) (by decide) (t := (.array .long)) (t' := .int) (by decide) (by decide))))
    have f99 := ((AV64.other W89 (Ne.symm ne11)).other W94 (Ne.symm ne11))
    rw [e94]
    exact ⟨rfl, N94, Z94, K94, sa4, _, _, ga4, f95, f96, Fw94, f97, f98, f99, hl64, own_part_all Rp rp64⟩
theorem pd_4 : parseMethodDescriptor "(J)J" = some ⟨[.long], some .long⟩ := by decide +kernel
theorem d6_0 : decode prog_19_method_3_code 0 = .ok (.aload_n 0, 1) := by decide +kernel
theorem d6_1 : decode prog_19_method_3_code 1 = .ok (.lload_n 1, 1) := by decide +kernel
theorem d6_2 : decode prog_19_method_3_code 2 = .ok (.invokestatic 28, 3) := by decide +kernel
theorem d6_5 : decode prog_19_method_3_code 5 = .ok (.invokevirtual 32, 3) := by decide +kernel
theorem d6_8 : decode prog_19_method_3_code 8 = .ok (.istore 5, 2) := by decide +kernel
theorem d6_10 : decode prog_19_method_3_code 10 = .ok (.aload_n 0, 1) := by decide +kernel
theorem d6_11 : decode prog_19_method_3_code 11 = .ok (.getfield 14, 3) := by decide +kernel
theorem d6_14 : decode prog_19_method_3_code 14 = .ok (.iload 5, 2) := by decide +kernel
theorem d6_16 : decode prog_19_method_3_code 16 = .ok (.laload, 1) := by decide +kernel
theorem d6_17 : decode prog_19_method_3_code 17 = .ok (.lload_n 1, 1) := by decide +kernel
theorem d6_18 : decode prog_19_method_3_code 18 = .ok (.lcmp, 1) := by decide +kernel
theorem d6_19 : decode prog_19_method_3_code 19 = .ok (.ifCond .ne 26, 3) := by decide +kernel
theorem d6_45 : decode prog_19_method_3_code 45 = .ok (.aload_n 0, 1) := by decide +kernel
theorem d6_46 : decode prog_19_method_3_code 46 = .ok (.getfield 14, 3) := by decide +kernel
theorem d6_49 : decode prog_19_method_3_code 49 = .ok (.iload 5, 2) := by decide +kernel
theorem d6_51 : decode prog_19_method_3_code 51 = .ok (.lload_n 1, 1) := by decide +kernel
theorem d6_52 : decode prog_19_method_3_code 52 = .ok (.lastore, 1) := by decide +kernel
theorem d6_53 : decode prog_19_method_3_code 53 = .ok (.aload_n 0, 1) := by decide +kernel
theorem d6_54 : decode prog_19_method_3_code 54 = .ok (.getfield 14, 3) := by decide +kernel
theorem d6_57 : decode prog_19_method_3_code 57 = .ok (.iload 5, 2) := by decide +kernel
theorem d6_59 : decode prog_19_method_3_code 59 = .ok (.iconst 1, 1) := by decide +kernel
theorem d6_60 : decode prog_19_method_3_code 60 = .ok (.iadd, 1) := by decide +kernel
theorem d6_61 : decode prog_19_method_3_code 61 = .ok (.lload_n 3, 1) := by decide +kernel
theorem d6_62 : decode prog_19_method_3_code 62 = .ok (.lastore, 1) := by decide +kernel
theorem d6_63 : decode prog_19_method_3_code 63 = .ok (.aload_n 0, 1) := by decide +kernel
theorem d6_64 : decode prog_19_method_3_code 64 = .ok (.aconst_null, 1) := by decide +kernel
theorem d6_65 : decode prog_19_method_3_code 65 = .ok (.putfield 41, 3) := by decide +kernel
theorem d6_68 : decode prog_19_method_3_code 68 = .ok (.aload_n 0, 1) := by decide +kernel
theorem d6_69 : decode prog_19_method_3_code 69 = .ok (.dup, 1) := by decide +kernel
theorem d6_70 : decode prog_19_method_3_code 70 = .ok (.getfield 44, 3) := by decide +kernel
theorem d6_73 : decode prog_19_method_3_code 73 = .ok (.iconst 1, 1) := by decide +kernel
theorem d6_74 : decode prog_19_method_3_code 74 = .ok (.iadd, 1) := by decide +kernel
theorem d6_75 : decode prog_19_method_3_code 75 = .ok (.dup_x1, 1) := by decide +kernel
theorem d6_76 : decode prog_19_method_3_code 76 = .ok (.putfield 44, 3) := by decide +kernel
theorem d6_79 : decode prog_19_method_3_code 79 = .ok (.aload_n 0, 1) := by decide +kernel
theorem d6_80 : decode prog_19_method_3_code 80 = .ok (.getfield 14, 3) := by decide +kernel
theorem d6_83 : decode prog_19_method_3_code 83 = .ok (.arraylength, 1) := by decide +kernel
theorem d6_84 : decode prog_19_method_3_code 84 = .ok (.iconst 4, 1) := by decide +kernel
theorem d6_85 : decode prog_19_method_3_code 85 = .ok (.idiv, 1) := by decide +kernel
theorem d6_86 : decode prog_19_method_3_code 86 = .ok (.if_icmp .le 12, 3) := by decide +kernel
theorem d6_89 : decode prog_19_method_3_code 89 = .ok (.aload_n 0, 1) := by decide +kernel
theorem d6_90 : decode prog_19_method_3_code 90 = .ok (.aload_n 0, 1) := by decide +kernel
theorem d6_91 : decode prog_19_method_3_code 91 = .ok (.getfield 14, 3) := by decide +kernel
theorem d6_94 : decode prog_19_method_3_code 94 = .ok (.arraylength, 1) := by decide +kernel
theorem d6_95 : decode prog_19_method_3_code 95 = .ok (.invokevirtual 47, 3) := by decide +kernel
theorem d6_98 : decode prog_19_method_3_code 98 = .ok (.return_, 1) := by decide +kernel
theorem pn_6 : plainName "com/example/pricewright/pricewright/core/LongSumTable" = true := by first | (simp [plainName, overriddenIn]; done) | decide +kernel
theorem ef_rmA (m : MethodId) (a1 : Addr) (q2 : Int64) (q3 : Int64) : entryFrame m #[(.ref a1), (.long q2), (.long q3)] 6 = mkF m 0 #[.val (.ref a1), .val (.long q2), .second, .val (.long q3), .second, .unset] [] := by first | (simp [entryFrame, mkF, argsToLocals, Value.category]; done) | rfl
def QrmA (Z : State) (a1 : Addr) (q2 : Int64) (q3 : Int64) (a : Addr) (k : ClassId) (arr : List Int64) (D : Int64 → Prop) (mm : Int64 → Int64) (sz : Nat) (so : Value) (h0 : Heap) (n0 : Nat) (v : Option Value) (h : Heap) (L : List Loc) : Prop := v = none ∧ Fr n0 L ∧ n0 ≤ h.size ∧ Keep h0 h [a1, a] ∧ ∃ (n' sz' : Nat) (so' : Value) (D' : Int64 → Prop) (M' : Int64 → Int64), (∀ x, D' x ↔ (D x ∨ x = q2)) ∧ (∀ x, M' x = if x = q2 then mm q2 + q3 else mm x) ∧ own_Tab Z h n0 a1 n' D' M' sz' so' ∧ ((n' = 4 ∧ sz' ≤ 2) ∨ (n' = 8 ∧ sz' = 3)) ∧ sz' ≤ sz + 1 ∧ (D q2 → sz' = sz ∧ so' = so) ∧ (¬ D q2 → sz' = sz + 1 ∧ so' = .null)
set_option maxRecDepth 65536 in
set_option maxHeartbeats 40000000 in
theorem rmA (l : Launch) (Z : State) (a0 : Array Value) (hw : ∀ d ∈ tables_1, d.before a0 Z = true) (ws : List Jvm.Cond) (a1 : Addr) (q2 : Int64) (q3 : Int64) (a : Addr) (k : ClassId) (arr : List Int64) (D : Int64 → Prop) (mm : Int64 → Int64) (sz : Nat) (so : Value) (h0 : Heap) (n0 : Nat) (Z0 : n0 ≤ h0.size) (E : Exa Z h0 a1 "com/example/pricewright/pricewright/core/LongSumTable") (FS : Fld Z h0 a1 "com/example/pricewright/pricewright/core/LongSumTable" "slots" "[J" (.ref a)) (FH : Fld Z h0 a1 "com/example/pricewright/pricewright/core/LongSumTable" "shift" "I" (.int (62 : Int32))) (FZ : Fld Z h0 a1 "com/example/pricewright/pricewright/core/LongSumTable" "size" "I" (.int (Int32.ofNat sz))) (FQ : Fld Z h0 a1 "com/example/pricewright/pricewright/core/LongSumTable" "sorted" "[J" so) (AV : Arv Z h0 a k .long (8 : Int32) (arr.map Value.long) (.long (0 : Int64))) (hlen : arr.length = 2 * 4) (hne : a1 ≠ a) (ga1 : n0 ≤ a1) (ga : n0 ≤ a) (Rp : own_Rep (own_K arr) (own_W arr) 4 (own_hs 4) D mm sz) (hsz : sz ≤ 2) (hk : ¬ q2 = (-9223372036854775808 : Int64)) (hnD : ¬ D q2) :
    MetFree l (⟨"com/example/pricewright/pricewright/core/LongSumTable", "add", "(JJ)V"⟩ : MethodName) (head1 (Jvm.Cond.code (⟨"com/example/pricewright/pricewright/core/LongSumTable", "add", "(JJ)V"⟩ : MethodName) prog_19_method_3_code 6 none :: ws) ({ frames := 4, cells := 2, slots := 20, locals := 59 } : Room)) (fun a U => a = #[(.ref a1), (.long q2), (.long q3)] ∧ Z.Warmed39 U.vm ∧ U.heap = h0) (fun _ _ _ _ _ => True) (fun _ U o U' => ∃ v L, o = .returned v ∧ QrmA Z a1 q2 q3 a k arr D mm sz so h0 n0 v U'.heap L ∧ FrameEnd U o U' L ({ frames := 4, cells := 2, slots := 20, locals := 59 } : Room).cells ({ frames := 4, cells := 2, slots := 20, locals := 59 } : Room).slots) := by
  refine MetFree.of_bodySF (plainFor_of_name pn_6) hisR ?_
  intro p e s m args below meth c s₁ Bd hml0 hP hK
  obtain ⟨rfl, hZ, hh⟩ := hP
  have hx := Bd.exec
  have hby := Bd.bytes
  have hml : c.maxLocals = 6 := hml0
  have hown : s.vm.findClass "com/example/pricewright/pricewright/core/LongSumTable" = some m.cls := findClass_of_methodNamed Bd.named
  have hnm := (name_of_methodNamed Bd.named Bd.method).1
  have X0 : Stand p l e ({ frames := 4, cells := 2, slots := 20, locals := 59 } : Room) s m #[(.ref a1), (.long q2), (.long q3)] below meth c s₁ [] 0 0 := Stand.of_body Bd
  have e0 : s₁.heap = h0 := by rw [← hh, Bd.state]; rfl
  have N0 := Fr.nil n0
  have pre0 : ∀ t, Steps p.tables e below (s₁.setTop (mkF m 0 #[.val (.ref a1), .val (.long q2), .second, .val (.long q3), .second, .unset] [])) t → Steps p.tables e below (s₁.setTop (entryFrame m #[(.ref a1), (.long q2), (.long q3)] 6)) t := fun t k => castTop (ef_rmA m a1 q2 q3) k
  have hfr : ∃ j, j < 4 ∧ own_K arr j = own_FREE := own_cnt_free (by rw [Rp.2.2.2]; omega)
  obtain ⟨_, _, ⟨T1, Lq1, kq1, nq1⟩, -, X1, ⟨Lc1, hQ1, lq1, yq1, zq1⟩, st1⟩ := Jvm.LawKit.callS X0 hx (y := (⟨"com/example/pricewright/pricewright/core/LongSumTable", "held", "(J)J"⟩ : MethodName)) hown (mvT hZ (hw _ (own_w 32 rfl))) (mvT hZ (hw _ (own_w 33 rfl))) (mvT hZ (hw _ (own_w 2 rfl))) (mvT hZ (hw _ (own_w 34 rfl))) (by decide) (backOf (W := 1) (rmH l Z a0 hw [] q2  h0 n0 Z0 hk) hZ (hw _ (own_w 34 rfl)) (hw _ (own_w 2 rfl)) (by decide) (by decide)) (g := (mkF m 2 #[.val (.ref a1), .val (.long q2), .second, .val (.long q3), .second, .unset] [(.long q2), (.ref a1)])) rfl (by rw [hml]; rfl) (argsL := [(.long q2)]) (rest := [(.ref a1)]) (lenOf pd_4 rfl) rfl (by show 2 * 0 + _ ≤ _; exact Nat.le_of_eq rfl) (hb hby d6_2) (fun _ _ => ⟨rfl, e0, (by decide : 0 + 0 ≤ _), (by decide : 0 + 0 ≤ _)⟩)
  dsimp only [Pt.U, Pt.locs, Pt.cells, Pt.slots] at X1 lq1 yq1 zq1 st1 hQ1
  subst lq1 yq1 zq1
  obtain ⟨r1, hr1, rfl, N1q, e1⟩ := hQ1
  have N1 := Fr.app N0 N1q
  have hs1 := hr1.symm
  subst hs1
  obtain ⟨cq2, qq2, qq2'⟩ := E.cell
  obtain ⟨_, _, ⟨T2, Lq2, kq2, nq2⟩, -, X2, ⟨Lc2, hQ2, lq2, yq2, zq2⟩, st2⟩ := X1.privateBack hx (y := (⟨"com/example/pricewright/pricewright/core/LongSumTable", "index", "(J)I"⟩ : MethodName)) hown (mvT hZ (hw _ (own_w 35 rfl))) (mvT hZ (hw _ (own_w 36 rfl))) (own_selpriv (mvT hZ (hw _ (own_w 1 rfl))) (Cond.privateMethod_at (mvP hZ (hw _ (own_w 37 rfl)) (args := #[]))) (mvT hZ (hw _ (own_w 36 rfl))) (by decide)) (Cond.privateMethod_at (mvP hZ (hw _ (own_w 37 rfl)) (args := #[]))) (mvT hZ (hw _ (own_w 38 rfl))) (by decide) (backOf (W := 0) (rmX l Z a0 hw [] a1 q2 a k (arr) 4 (62 : Int32) h0 n0 Z0 (Or.inl ⟨rfl, rfl⟩) FS FH AV hfr) hZ (hw _ (own_w 38 rfl)) (hw _ (own_w 2 rfl)) (by decide) (by decide)) (g := (mkF m 5 #[.val (.ref a1), .val (.long q2), .second, .val (.long q3), .second, .unset] [(.long q2), (.ref a1)])) rfl (by rw [hml]; rfl) (Steps.refl _) (a := a1) (by rw [e1]; exact qq2) qq2' (argsL := [(.long q2)]) (rest := []) (lenOf pd_1 rfl) rfl (by show 2 * 0 + _ ≤ _; exact Nat.le_of_eq rfl) (hb hby d6_5) (fun _ _ => ⟨rfl, e1, (by decide : 0 + 0 ≤ _), (by decide : 0 + 0 ≤ _)⟩)
  dsimp only [Pt.U, Pt.locs, Pt.cells, Pt.slots] at X2 lq2 yq2 zq2 st2 hQ2
  subst lq2 yq2 zq2
  obtain ⟨r2, hr2, rfl, N2q, e2⟩ := hQ2
  have N2 := Fr.app N1 N2q
  obtain ⟨i2, hi2, rfl, P2⟩ := hr2
  obtain ⟨T3, X3, e3, st3⟩ := getF X2 hx hZ hown (host := "") (Or.inl (hw _ (own_w 13 rfl))) Via.refl e2 FS (g := (mkF m 11 #[.val (.ref a1), .val (.long q2), .second, .val (.long q3), .second, .val (.int (own_p i2))] [(.ref a1)])) rfl rfl (hb hby d6_11)
  obtain ⟨cl4, Ar4, qk4, Sz4, Nn4, Hh4, Gg4⟩ := id (AV)
  have hin5 : ¬ ((own_p i2) < 0 ∨ cl4.slots.size ≤ ((own_p i2)).toNatClampNeg) := inb_of Sz4 ⟨own_p0 (own_lt8 hi2 (Or.inl rfl : 4 = 4 ∨ 4 = 8)), own_plt hi2 (Or.inl rfl : 4 = 4 ∨ 4 = 8)⟩
  have hat5 : cl4.slots[((own_p i2)).toNatClampNeg]? = some (.long (own_K arr i2)) := Has.at Hh4 hin5 (own_ldK arr (own_lt8 hi2 (Or.inl rfl : 4 = 4 ∨ 4 = 8)))
  have hc19 : ¬ (own_K arr i2) = q2 := fun q => hnD (own_rep_dom Rp hi2 hk q).1
  obtain ⟨T6, X6, e6, st6⟩ := getF X3 hx hZ hown (host := "") (Or.inl (hw _ (own_w 13 rfl))) Via.refl e3 FS (g := (mkF m 46 #[.val (.ref a1), .val (.long q2), .second, .val (.long q3), .second, .val (.int (own_p i2))] [(.ref a1)])) rfl rfl (hb hby d6_46)
  obtain ⟨cl7, Ar7, qk7, Sz7, Nn7, Hh7, Gg7⟩ := id (AV)
  have hin8 : ¬ ((own_p i2) < 0 ∨ cl7.slots.size ≤ ((own_p i2)).toNatClampNeg) := inb_of Sz7 ⟨own_p0 (own_lt8 hi2 (Or.inl rfl : 4 = 4 ∨ 4 = 8)), own_plt hi2 (Or.inl rfl : 4 = 4 ∨ 4 = 8)⟩
  obtain ⟨T8, h8, X8, e8, W8, st8⟩ := stJ X6 hx hZ e6 Ar7 (j := (own_p i2)) hin8 (g := (mkF m 52 #[.val (.ref a1), .val (.long q2), .second, .val (.long q3), .second, .val (.int (own_p i2))] [(.long q2), (.int (own_p i2)), (.ref a)])) rfl rfl (hb hby d6_52)
  have N8 := Fr.snoc X8 N2 ga
  have Z8 : n0 ≤ h8.size := by rw [W8.size]; exact Z0
  have K8 : Keep h0 h8 [a1, a] := (Keep.refl h0 [a1, a]).wr W8 (Or.inl (own_w 1 rfl))
  have V8 : Arv Z h8 a k .long (8 : Int32) ((arr.set (2 * i2) q2).map Value.long) (.long (0 : Int64)) := by
    have q := Arv.set Ar7 qk7 Sz7 Nn7 Hh7 Gg7 rfl W8 (2 * i2) (own_pN (own_lt8 hi2 (Or.inl rfl : 4 = 4 ∨ 4 = 8))) (by rw [List.length_map, hlen]; omega)
    rw [List.map_set]; exact q
  have f9 := (FS.other W8 (Or.inl hne))
  obtain ⟨T10, X10, e10, st10⟩ := getF X8 hx hZ hown (host := "") (Or.inl (hw _ (own_w 13 rfl))) Via.refl e8 f9 (g := (mkF m 54 #[.val (.ref a1), .val (.long q2), .second, .val (.long q3), .second, .val (.int (own_p i2))] [(.ref a1)])) rfl rfl (hb hby d6_54)
  obtain ⟨cl11, Ar11, qk11, Sz11, Nn11, Hh11, Gg11⟩ := id (V8)
  have hin12 : ¬ (((own_p i2) + (1 : Int32)) < 0 ∨ cl11.slots.size ≤ (((own_p i2) + (1 : Int32))).toNatClampNeg) := inb_of Sz11 ⟨own_q0 (own_lt8 hi2 (Or.inl rfl : 4 = 4 ∨ 4 = 8)), own_qlt hi2 (Or.inl rfl : 4 = 4 ∨ 4 = 8)⟩
  obtain ⟨T12, h12, X12, e12, W12, st12⟩ := stJ X10 hx hZ e10 Ar11 (j := ((own_p i2) + (1 : Int32))) hin12 (g := (mkF m 62 #[.val (.ref a1), .val (.long q2), .second, .val (.long q3), .second, .val (.int (own_p i2))] [(.long q3), (.int ((own_p i2) + (1 : Int32))), (.ref a)])) rfl rfl (hb hby d6_62)
  have N12 := Fr.snoc X12 N8 ga
  have Z12 : n0 ≤ h12.size := by rw [W12.size]; exact Z8
  have K12 : Keep h0 h12 [a1, a] := K8.wr W12 (Or.inl (own_w 1 rfl))
  have V12 : Arv Z h12 a k .long (8 : Int32) (((arr.set (2 * i2) q2).set (2 * i2 + 1) q3).map Value.long) (.long (0 : Int64)) := by
    have q := Arv.set Ar11 qk11 Sz11 Nn11 Hh11 Gg11 rfl W12 (2 * i2 + 1) (own_qN (own_lt8 hi2 (Or.inl rfl : 4 = 4 ∨ 4 = 8))) (by rw [List.length_map, List.length_set, hlen]; omega)
    rw [List.map_set]; exact q
  have f13 := ((E.wr W8).wr W12)
  have f14 := ((FQ.other W8 (Or.inl hne)).other W12 (Or.inl hne))
  obtain ⟨T15, h15, X15, e15, W15, st15⟩ := putF X12 hx hZ hown (host := "") (Or.inl (hw _ (own_w 40 rfl))) Via.refl e12 f14 f13 (Or.inl (hw _ (own_w 41 rfl))) (hw _ (own_w 1 rfl)) (ty := (.array .long)) (by decide) rfl rfl (g := (mkF m 65 #[.val (.ref a1), .val (.long q2), .second, .val (.long q3), .second, .val (.int (own_p i2))] [.null, (.ref a1)])) rfl rfl (hb hby d6_65)
  have N15 := Fr.snoc X15 N12 ga1
  have Z15 : n0 ≤ h15.size := by rw [W15.size]; exact Z12
  have K15 : Keep h0 h15 [a1, a] := K12.wr W15 (Or.inl (own_w 0 rfl))
  have Fw15 := f14.same W15
  have f16 := (((FZ.other W8 (Or.inl hne)).other W12 (Or.inl hne)).other W15 (Or.inr (slot_ne (Or.inl (hw _ (own_w 43 rfl))) (Or.inl (hw _ (own_w 41 rfl))) (by decide) (t := .int) (t' := (.array .long)) (by decide) (by decide))))
  obtain ⟨T17, X17, e17, st17⟩ := getF X15 hx hZ hown (host := "") (Or.inl (hw _ (own_w 42 rfl))) Via.refl e15 f16 (g := (mkF m 70 #[.val (.ref a1), .val (.long q2), .second, .val (.long q3), .second, .val (.int (own_p i2))] [(.ref a1), (.ref a1)])) rfl rfl (hb hby d6_70)
  have f18 := (f13.wr W15)
  obtain ⟨T19, h19, X19, e19, W19, st19⟩ := putF X17 hx hZ hown (host := "") (Or.inl (hw _ (own_w 42 rfl))) Via.refl e17 f16 f18 (Or.inl (hw _ (own_w 43 rfl))) (hw _ (own_w 1 rfl)) (ty := .int) (by decide) rfl rfl (g := (mkF m 76 #[.val (.ref a1), .val (.long q2), .second, .val (.long q3), .second, .val (.int (own_p i2))] [(.int ((Int32.ofNat sz) + (1 : Int32))), (.ref a1), (.int ((Int32.ofNat sz) + (1 : Int32)))])) rfl rfl (hb hby d6_76)
  have N19 := Fr.snoc X19 N15 ga1
  have Z19 : n0 ≤ h19.size := by rw [W19.size]; exact Z15
  have K19 : Keep h0 h19 [a1, a] := K15.wr W19 (Or.inl (own_w 0 rfl))
  have Fw19 := f16.same W19
  have f20 := (((f9.other W12 (Or.inl hne)).other W15 (Or.inr (slot_ne (Or.inl (hw _ (own_w 14 rfl))) (Or.inl (hw _ (own_w 41 rfl))) (by decide) (t := (.array .long)) (t' := (.array .long)) (by decide) (by decide)))).other W19 (Or.inr (slot_ne (Or.inl (hw _ (own_w 14 rfl))) (Or.inl (hw _ (own_w 43 rfl))) (by decide) (t := (.array .long)) (t' := .int) (by decide) (by decide))))
  obtain ⟨T21, X21, e21, st21⟩ := getF X19 hx hZ hown (host := "") (Or.inl (hw _ (own_w 13 rfl))) Via.refl e19 f20 (g := (mkF m 80 #[.val (.ref a1), .val (.long q2), .second, .val (.long q3), .second, .val (.int (own_p i2))] [(.ref a1), (.int ((Int32.ofNat sz) + (1 : Int32)))])) rfl rfl (hb hby d6_80)
  have f22 := ((V12.other W15 (Ne.symm hne)).other W19 (Ne.symm hne))
  obtain ⟨cl23, Ar23, qk23, Sz23, Nn23, Hh23, Gg23⟩ := id (f22)
  by_cases hc86 : (2 : Int32) < ((Int32.ofNat sz) + (1 : Int32))
  · obtain ⟨T24, X24, e24, st24⟩ := getF X21 hx hZ hown (host := "") (Or.inl (hw _ (own_w 13 rfl))) Via.refl e21 f20 (g := (mkF m 91 #[.val (.ref a1), .val (.long q2), .second, .val (.long q3), .second, .val (.int (own_p i2))] [(.ref a1), (.ref a1)])) rfl rfl (hb hby d6_91)
    obtain ⟨cl25, Ar25, qk25, Sz25, Nn25, Hh25, Gg25⟩ := id (f22)
    have rp := own_repK (v := q3) hlen Rp hi2 hk P2 hc19
    have s2 := own_sz2 hsz hc86
    have f27 := (f18.wr W19)
    have f28 := ((((FH.other W8 (Or.inl hne)).other W12 (Or.inl hne)).other W15 (Or.inr (slot_ne (Or.inl (hw _ (own_w 26 rfl))) (Or.inl (hw _ (own_w 41 rfl))) (by decide) (t := .int) (t' := (.array .long)) (by decide) (by decide)))).other W19 (Or.inr (slot_ne (Or.inl (hw _ (own_w 26 rfl))) (Or.inl (hw _ (own_w 43 rfl))) (by decide) (t := .int) (t' := .int) (by decide) (by decide))))
    have f29 := (Fw15.other W19 (Or.inr (slot_ne (Or.inl (hw _ (own_w 41 rfl))) (Or.inl (hw _ (own_w 43 rfl))) (by decide) (t := (.array .long)) (t' := .int) (by decide) (by decide))))
    obtain ⟨cq26, qq26, qq26'⟩ := f27.cell
    obtain ⟨_, _, ⟨T26, Lq26, kq26, nq26⟩, -, X26, ⟨Lc26, hQ26, lq26, yq26, zq26⟩, st26⟩ := X24.privateBack hx (y := (⟨"com/example/pricewright/pricewright/core/LongSumTable", "resize", "(I)V"⟩ : MethodName)) hown (mvT hZ (hw _ (own_w 89 rfl))) (mvT hZ (hw _ (own_w 90 rfl))) (own_selpriv (mvT hZ (hw _ (own_w 1 rfl))) (Cond.privateMethod_at (mvP hZ (hw _ (own_w 91 rfl)) (args := #[]))) (mvT hZ (hw _ (own_w 90 rfl))) (by decide)) (Cond.privateMethod_at (mvP hZ (hw _ (own_w 91 rfl)) (args := #[]))) (mvT hZ (hw _ (own_w 92 rfl))) (by decide) (backOf (W := 0) (rmR l Z a0 hw [] a1 a k (((arr.set (2 * i2) q2).set (2 * i2 + 1) q3)) (Int32.ofNat sz + 1) (fun x => D x ∨ x = q2) (fun x => if x = q2 then mm q2 + q3 else mm x) (sz + 1) h19 n0 Z19 f27 f20 f28 Fw19 f29 f22 (by rw [List.length_set, List.length_set]; exact hlen) hne ga1 ga rp.2) hZ (hw _ (own_w 92 rfl)) (hw _ (own_w 2 rfl)) (by decide) (by decide)) (g := (mkF m 95 #[.val (.ref a1), .val (.long q2), .second, .val (.long q3), .second, .val (.int (own_p i2))] [(.int (8 : Int32)), (.ref a1)])) rfl (by rw [hml]; rfl) (Steps.refl _) (a := a1) (by rw [e24]; exact qq26) qq26' (argsL := [(.int (8 : Int32))]) (rest := []) (lenOf pd_2 rfl) rfl (by show 2 * 0 + _ ≤ _; exact Nat.le_of_eq rfl) (hb hby d6_95) (fun _ _ => ⟨rfl, e24, (by decide : 0 + 2 ≤ _), (by decide : 0 + 20 ≤ _)⟩)
    dsimp only [Pt.U, Pt.locs, Pt.cells, Pt.slots] at X26 lq26 yq26 zq26 st26 hQ26
    subst lq26 yq26 zq26
    obtain ⟨rfl, N26q, Z26, KC26, a', k', arr', ga', E', FS', FH', FZ', FQ', AV', hl', rp'⟩ := hQ26
    have N26 := Fr.app N19 N26q
    have K26 : Keep h0 T26.heap [a1, a] := K19.trans KC26 (allS (Or.inl (own_w 0 rfl)) all0)
    obtain ⟨fs, hr, hrun, hended, hW, hsame⟩ := X26.leave (v := none) (fun _ => rfl) (BodyLoose.notSynchronized Bd)
    refine ⟨_, _, pre0 _ ?_, hrun, hended, _, _, rfl, ?_, ⟨_, rfl⟩, hW, hsame.mono (by decide) (by decide)⟩
    · show Steps p.tables e below (s₁.setTop (mkF m 0 #[.val (.ref a1), .val (.long q2), .second, .val (.long q3), .second, .unset] [])) _
      refine XS.aloadN X0.here hx rfl (hb hby d6_0) rfl rfl ?_
      refine XS.lloadN X0.here hx rfl (hb hby d6_1) rfl ?_
      refine st1 _ ?_
      refine st2.trans ?_
      refine XS.istore X2.here hx rfl (hb hby d6_8) rfl (l' := #[.val (.ref a1), .val (.long q2), .second, .val (.long q3), .second, .val (.int (own_p i2))]) rfl ?_
      refine XS.aloadN X2.here hx rfl (hb hby d6_10) rfl rfl ?_
      refine st3 _ ?_
      refine XS.iload X3.here hx rfl (hb hby d6_14) rfl ?_
      refine X3.laload hx (j := (own_p i2)) (v := (.long (own_K arr i2))) (by rw [e3]; exact Ar4.1) (State.isArrayOf_alike hZ.alike Ar4.2.1) Ar4.2.2 hin5 hat5 (g := (mkF m 16 #[.val (.ref a1), .val (.long q2), .second, .val (.long q3), .second, .val (.int (own_p i2))] [(.int (own_p i2)), (.ref a)])) rfl rfl (hb hby d6_16) _ ?_
      refine XS.lloadN X3.here hx rfl (hb hby d6_17) rfl ?_
      refine XS.lcmp X3.here hx rfl (hb hby d6_18) rfl ?_
      refine XS.ifYes X3.here hx rfl (pc0 := 19) (pc' := 45) rfl (hb hby d6_19) rfl ((if0 _ _).trans (feq (own_lcne hc19)).2) (by decide) (by decide) ?_
      refine XS.aloadN X3.here hx rfl (hb hby d6_45) rfl rfl ?_
      refine st6 _ ?_
      refine XS.iload X6.here hx rfl (hb hby d6_49) rfl ?_
      refine XS.lloadN X6.here hx rfl (hb hby d6_51) rfl ?_
      refine st8 _ ?_
      refine XS.aloadN X8.here hx rfl (hb hby d6_53) rfl rfl ?_
      refine st10 _ ?_
      refine XS.iload X10.here hx rfl (hb hby d6_57) rfl ?_
      refine XS.iconst X10.here hx rfl (hb hby d6_59) ?_
      refine XS.iadd X10.here hx rfl (hb hby d6_60) rfl ?_
      refine XS.lloadN X10.here hx rfl (hb hby d6_61) rfl ?_
      refine st12 _ ?_
      refine XS.aloadN X12.here hx rfl (hb hby d6_63) rfl rfl ?_
      refine XS.aconstNull X12.here hx rfl (hb hby d6_64) ?_
      refine st15 _ ?_
      refine XS.aloadN X15.here hx rfl (hb hby d6_68) rfl rfl ?_
      refine XS.dup X15.here hx rfl (hb hby d6_69) rfl rfl ?_
      refine st17 _ ?_
      refine XS.iconst X17.here hx rfl (hb hby d6_73) ?_
      refine XS.iadd X17.here hx rfl (hb hby d6_74) rfl ?_
      refine XS.dupX1 X17.here hx rfl (hb hby d6_75) rfl rfl rfl ?_
      refine st19 _ ?_
      refine XS.aloadN X19.here hx rfl (hb hby d6_79) rfl rfl ?_
      refine st21 _ ?_
      refine X21.arraylength hx (by rw [e21]; exact Ar23.1) (State.isArrayOf_alike hZ.alike Ar23.2.1) (g := (mkF m 83 #[.val (.ref a1), .val (.long q2), .second, .val (.long q3), .second, .val (.int (own_p i2))] [(.ref a), (.int ((Int32.ofNat sz) + (1 : Int32)))])) rfl rfl (hb hby d6_83) _ ?_
      rw [len_of Sz23 Nn23]
      show Steps p.tables e below (T21.setTop (mkF m 84 #[.val (.ref a1), .val (.long q2), .second, .val (.long q3), .second, .val (.int (own_p i2))] [(.int (8 : Int32)), (.int ((Int32.ofNat sz) + (1 : Int32)))])) _
      refine XS.iconst X21.here hx rfl (hb hby d6_84) ?_
      refine XS.idiv X21.here hx rfl (hb hby d6_85) rfl (by decide) ?_
      refine XS.icmpNo X21.here hx rfl (hb hby d6_86) rfl (tlt hc86).2.2.2 ?_
      refine XS.aloadN X21.here hx rfl (hb hby d6_89) rfl rfl ?_
      refine XS.aloadN X21.here hx rfl (hb hby d6_90) rfl rfl ?_
      refine st24 _ ?_
      refine X24.arraylength hx (by rw [e24]; exact Ar25.1) (State.isArrayOf_alike hZ.alike Ar25.2.1) (g := (mkF m 94 #[.val (.ref a1), .val (.long q2), .second, .val (.long q3), .second, .val (.int (own_p i2))] [(.ref a), (.ref a1)])) rfl rfl (hb hby d6_94) _ ?_
      rw [len_of Sz25 Nn25]
      show Steps p.tables e below (T24.setTop (mkF m 95 #[.val (.ref a1), .val (.long q2), .second, .val (.long q3), .second, .val (.int (own_p i2))] [(.int (8 : Int32)), (.ref a1)])) _
      refine st26.trans ?_
      show Steps p.tables e below (T26.setTop (mkF m 98 #[.val (.ref a1), .val (.long q2), .second, .val (.long q3), .second, .val (.int (own_p i2))] [])) _
      exact X26.returnOut hx Bd.returns (hb hby d6_98) hr
    · show QrmA Z a1 q2 q3 a k arr D mm sz so h0 n0 _ T26.heap _
      exact ⟨rfl, N26, Z26, K26, 8, sz + 1, .null, _, _, fun _ => Iff.rfl, fun _ => rfl, ⟨a', k', arr', 61, Or.inr ⟨rfl, rfl⟩, ga', E', FS', FH', by rw [← own_sz1 hsz]; exact FZ', FQ', AV', hl', rp'⟩, Or.inr ⟨rfl, by omega⟩, by omega, fun q => absurd q rp.1, fun _ => ⟨rfl, rfl⟩⟩
  · obtain ⟨fs, hr, hrun, hended, hW, hsame⟩ := X21.leave (v := none) (fun _ => rfl) (BodyLoose.notSynchronized Bd)
    refine ⟨_, _, pre0 _ ?_, hrun, hended, _, _, rfl, ?_, ⟨_, rfl⟩, hW, hsame.mono (by decide) (by decide)⟩
    · show Steps p.tables e below (s₁.setTop (mkF m 0 #[.val (.ref a1), .val (.long q2), .second, .val (.long q3), .second, .unset] [])) _
      refine XS.aloadN X0.here hx rfl (hb hby d6_0) rfl rfl ?_
      refine XS.lloadN X0.here hx rfl (hb hby d6_1) rfl ?_
      refine st1 _ ?_
      refine st2.trans ?_
      refine XS.istore X2.here hx rfl (hb hby d6_8) rfl (l' := #[.val (.ref a1), .val (.long q2), .second, .val (.long q3), .second, .val (.int (own_p i2))]) rfl ?_
      refine XS.aloadN X2.here hx rfl (hb hby d6_10) rfl rfl ?_
      refine st3 _ ?_
      refine XS.iload X3.here hx rfl (hb hby d6_14) rfl ?_
      refine X3.laload hx (j := (own_p i2)) (v := (.long (own_K arr i2))) (by rw [e3]; exact Ar4.1) (State.isArrayOf_alike hZ.alike Ar4.2.1) Ar4.2.2 hin5 hat5 (g := (mkF m 16 #[.val (.ref a1), .val (.long q2), .second, .val (.long q3), .second, .val (.int (own_p i2))] [(.int (own_p i2)), (.ref a)])) rfl rfl (hb hby d6_16) _ ?_
      refine XS.lloadN X3.here hx rfl (hb hby d6_17) rfl ?_
      refine XS.lcmp X3.here hx rfl (hb hby d6_18) rfl ?_
      refine XS.ifYes X3.here hx rfl (pc0 := 19) (pc' := 45) rfl (hb hby d6_19) rfl ((if0 _ _).trans (feq (own_lcne hc19)).2) (by decide) (by decide) ?_
      refine XS.aloadN X3.here hx rfl (hb hby d6_45) rfl rfl ?_
      refine st6 _ ?_
      refine XS.iload X6.here hx rfl (hb hby d6_49) rfl ?_
      refine XS.lloadN X6.here hx rfl (hb hby d6_51) rfl ?_
      refine st8 _ ?_
      refine XS.aloadN X8.here hx rfl (hb hby d6_53) rfl rfl ?_
      refine st10 _ ?_
      refine XS.iload X10.here hx rfl (hb hby d6_57) rfl ?_
      refine XS.iconst X10.here hx rfl (hb hby d6_59) ?_
      refine XS.iadd X10.here hx rfl (hb hby d6_60) rfl ?_
      refine XS.lloadN X10.here hx rfl (hb hby d6_61) rfl ?_
      refine st12 _ ?_
      refine XS.aloadN X12.here hx rfl (hb hby d6_63) rfl rfl ?_
      refine XS.aconstNull X12.here hx rfl (hb hby d6_64) ?_
      refine st15 _ ?_
      refine XS.aloadN X15.here hx rfl (hb hby d6_68) rfl rfl ?_
      refine XS.dup X15.here hx rfl (hb hby d6_69) rfl rfl ?_
      refine st17 _ ?_
      refine XS.iconst X17.here hx rfl (hb hby d6_73) ?_
      refine XS.iadd X17.here hx rfl (hb hby d6_74) rfl ?_
      refine XS.dupX1 X17.here hx rfl (hb hby d6_75) rfl rfl rfl ?_
      refine st19 _ ?_
      refine XS.aloadN X19.here hx rfl (hb hby d6_79) rfl rfl ?_
      refine st21 _ ?_
      refine X21.arraylength hx (by rw [e21]; exact Ar23.1) (State.isArrayOf_alike hZ.alike Ar23.2.1) (g := (mkF m 83 #[.val (.ref a1), .val (.long q2), .second, .val (.long q3), .second, .val (.int (own_p i2))] [(.ref a), (.int ((Int32.ofNat sz) + (1 : Int32)))])) rfl rfl (hb hby d6_83) _ ?_
      rw [len_of Sz23 Nn23]
      show Steps p.tables e below (T21.setTop (mkF m 84 #[.val (.ref a1), .val (.long q2), .second, .val (.long q3), .second, .val (.int (own_p i2))] [(.int (8 : Int32)), (.int ((Int32.ofNat sz) + (1 : Int32)))])) _
      refine XS.iconst X21.here hx rfl (hb hby d6_84) ?_
      refine XS.idiv X21.here hx rfl (hb hby d6_85) rfl (by decide) ?_
      refine XS.icmpYes X21.here hx rfl (pc0 := 86) (pc' := 98) rfl (hb hby d6_86) rfl (flt hc86).2.2.2 (by decide) (by decide) ?_
      show Steps p.tables e below (T21.setTop (mkF m 98 #[.val (.ref a1), .val (.long q2), .second, .val (.long q3), .second, .val (.int (own_p i2))] [])) _
      exact X21.returnOut hx Bd.returns (hb hby d6_98) hr
    · show QrmA Z a1 q2 q3 a k arr D mm sz so h0 n0 _ T21.heap _
      have f30 := (f18.wr W19)
      have f31 := ((((FH.other W8 (Or.inl hne)).other W12 (Or.inl hne)).other W15 (Or.inr (slot_ne (Or.inl (hw _ (own_w 26 rfl))) (Or.inl (hw _ (own_w 41 rfl))) (by decide) (t := .int) (t' := (.array .long)) (by decide) (by decide)))).other W19 (Or.inr (slot_ne (Or.inl (hw _ (own_w 26 rfl))) (Or.inl (hw _ (own_w 43 rfl))) (by decide) (t := .int) (t' := .int) (by decide) (by decide))))
      have f32 := (Fw15.other W19 (Or.inr (slot_ne (Or.inl (hw _ (own_w 41 rfl))) (Or.inl (hw _ (own_w 43 rfl))) (by decide) (t := (.array .long)) (t' := .int) (by decide) (by decide))))
      rw [e21]
      have rp := own_repK (v := q3) hlen Rp hi2 hk P2 hc19
      have s1 := own_sz3 hsz hc86
      exact ⟨rfl, N19, Z19, K19, 4, sz + 1, .null, _, _, fun _ => Iff.rfl, fun _ => rfl, ⟨a, k, _, 62, Or.inl ⟨rfl, rfl⟩, ga, f30, f20, f31, by rw [← own_sz1 hsz]; exact Fw19, f32, f22, by rw [List.length_set, List.length_set]; exact hlen, rp.2⟩, Or.inl ⟨rfl, by omega⟩, by omega, fun q => absurd q rp.1, fun _ => ⟨rfl, rfl⟩⟩
theorem own_ovf {a b : Int64} (h1 : -9223372036854775808 ≤ a.toInt + b.toInt) (h2 : a.toInt + b.toInt < 9223372036854775808) : ¬ ((a ^^^ (a + b)) &&& (b ^^^ (a + b))) < (0 : Int64) := by
  have e := c_ladd a b
  have l1 := (a + b).toInt_lt; have l2 := (a + b).le_toInt
  have x := c_xorSL a (a + b); have y := c_xorSL b (a + b); have z := c_andSL (a ^^^ (a + b)) (b ^^^ (a + b))
  rw [Int64.lt_iff_toInt_lt, show (0 : Int64).toInt = 0 from rfl]
  intro q
  generalize (a ^^^ (a + b)).toInt = X at *
  generalize (b ^^^ (a + b)).toInt = Y at *
  generalize ((a ^^^ (a + b)) &&& (b ^^^ (a + b))).toInt = W at *
  generalize (a + b).toInt = S at *
  have z2 := z.2.1; have z3 := z.2.2
  by_cases p1 : 0 ≤ X
  · have := z2 p1; omega
  · by_cases p2 : 0 ≤ Y
    · have := z3 p2; omega
    · obtain ⟨x1, x2, x3, x4⟩ := x
      obtain ⟨y1, y2, y3, y4⟩ := y
      by_cases s0 : 0 ≤ S <;> by_cases a0 : 0 ≤ a.toInt <;> by_cases b0 : 0 ≤ b.toInt
      · exact p1 (x4 a0 s0)
      · exact p1 (x4 a0 s0)
      · exact p2 (y4 b0 s0)
      · omega
      · omega
      · exact p2 (y1 (by omega) (by omega))
      · exact p1 (x1 (by omega) (by omega))
      · exact p1 (x1 (by omega) (by omega))
theorem own_sh62 {sh : Int32} (h : (4 = 4 ∧ sh = 62) ∨ (4 = 8 ∧ sh = 61)) : sh = 62 := by
  rcases h with ⟨-, h⟩ | ⟨h, -⟩
  · exact h
  · omega

def own_ks (K : Nat → Int64) : Nat → List Int64
  | 0 => []
  | i + 1 => if K i = own_FREE then own_ks K i else own_ks K i ++ [K i]
theorem own_ks_len (K : Nat → Int64) (i : Nat) : (own_ks K i).length = own_cnt K i := by
  induction i with
  | zero => rfl
  | succ i ih => simp only [own_ks, own_cnt]; split <;> simp [ih]
theorem own_ks_mem (K : Nat → Int64) (n : Nat) (x : Int64) : x ∈ own_ks K n ↔ x ≠ own_FREE ∧ ∃ i, i < n ∧ K i = x := by
  induction n with
  | zero => constructor
            · intro h; cases h
            · rintro ⟨-, i, h, -⟩; omega
  | succ n ih =>
    simp only [own_ks]
    split
    · rename_i q
      rw [ih]
      constructor
      · rintro ⟨a, i, b, c⟩; exact ⟨a, i, by omega, c⟩
      · rintro ⟨a, i, b, c⟩
        refine ⟨a, i, ?_, c⟩
        by_cases z : i = n
        · subst z; exact absurd (c.symm.trans q) a
        · omega
    · rename_i q
      rw [List.mem_append, ih, List.mem_singleton]
      constructor
      · rintro (⟨a, i, b, c⟩ | rfl)
        · exact ⟨a, i, by omega, c⟩
        · exact ⟨q, n, by omega, rfl⟩
      · rintro ⟨a, i, b, c⟩
        by_cases z : i = n
        · subst z; exact Or.inr c.symm
        · exact Or.inl ⟨a, i, by omega, c⟩
theorem own_ks_nodup {K : Nat → Int64} {n : Nat} (h : ∀ i j, i < n → j < n → K i = K j → K i ≠ own_FREE → i = j) : (own_ks K n).Nodup := by
  induction n with
  | zero => exact List.nodup_nil
  | succ n ih =>
    have ih' := ih fun i j a b => h i j (by omega) (by omega)
    simp only [own_ks]
    split
    · exact ih'
    · rename_i q
      rw [List.nodup_append]
      refine ⟨ih', by simp, ?_⟩
      intro x hx y hy e
      rw [List.mem_singleton] at hy
      subst hy
      obtain ⟨-, i, a, b⟩ := (own_ks_mem K n x).mp hx
      have := h i n (by omega) (by omega) (b.trans e) (by rw [b, e]; exact q)
      omega
/-- the first i slots' keys, and noughts up to z places -/
def own_pad (K : Nat → Int64) (i z : Nat) : List Int64 := own_ks K i ++ List.replicate (z - own_cnt K i) 0
theorem own_cntS {K : Nat → Int64} {i : Nat} (h : K i = own_FREE) : own_cnt K (i + 1) = own_cnt K i := by simp only [own_cnt, if_pos h]; rfl
theorem own_cntP {K : Nat → Int64} {i : Nat} (h : ¬ K i = own_FREE) : own_cnt K (i + 1) = own_cnt K i + 1 := by simp only [own_cnt, if_neg h]
theorem own_padS {K : Nat → Int64} {i z : Nat} (h : K i = own_FREE) : own_pad K (i + 1) z = own_pad K i z := by
  unfold own_pad; rw [own_cntS h]; simp only [own_ks, if_pos h]
theorem own_padP {K : Nat → Int64} {i z : Nat} (h : ¬ K i = own_FREE) (hz : own_cnt K i < z) : own_pad K (i + 1) z = (own_pad K i z).set (own_cnt K i) (K i) := by
  unfold own_pad
  rw [own_cntP h]
  simp only [own_ks, if_neg h]
  rw [show z - own_cnt K i = (z - (own_cnt K i + 1)) + 1 by omega, List.replicate_succ]
  rw [List.set_append_right _ _ (by rw [own_ks_len]; omega), own_ks_len, Nat.sub_self, List.set_cons_zero, List.append_assoc]
  rfl
theorem own_pad_len (K : Nat → Int64) {i z : Nat} (h : own_cnt K i ≤ z) : (own_pad K i z).length = z := by unfold own_pad; rw [List.length_append, own_ks_len, List.length_replicate]; omega
theorem own_pad_full {K : Nat → Int64} {n z : Nat} (h : own_cnt K n = z) : own_pad K n z = own_ks K n := by unfold own_pad; rw [h, Nat.sub_self]; simp
theorem own_c3 {c : Nat} (h : c < 4) : (Int32.ofNat c).toNatClampNeg = c ∧ ¬ Int32.ofNat c < 0 := (by decide +kernel : ∀ j : Fin 4, (Int32.ofNat j.1).toNatClampNeg = j.1 ∧ ¬ Int32.ofNat j.1 < 0) ⟨c, h⟩
theorem own_c3lt {c z : Nat} (h : c < z) (hz : z < 4) : Int32.ofNat c < Int32.ofNat z := (by decide +kernel : ∀ j k : Fin 4, j.1 < k.1 → Int32.ofNat j.1 < Int32.ofNat k.1) ⟨c, by omega⟩ ⟨z, hz⟩ h
theorem own_c3s {c : Nat} (h : c < 3) : Int32.ofNat c + (1 : Int32) = Int32.ofNat (c + 1) := (by decide +kernel : ∀ j : Fin 3, Int32.ofNat j.1 + (1 : Int32) = Int32.ofNat (j.1 + 1)) ⟨c, h⟩
theorem own_dom_ks {K W : Nat → Int64} {n : Nat} {hs : Int64 → Nat} {D : Int64 → Prop} {mm : Int64 → Int64} {sz : Nat} (R : own_Rep K W n hs D mm sz) : (∀ x, D x ↔ x ∈ own_ks K n) ∧ (own_ks K n).Nodup ∧ (own_ks K n).length = sz := by
  refine ⟨fun x => ?_, own_ks_nodup fun i j a b c d => own_rep_inj R a b c d, by rw [own_ks_len]; exact R.2.2.2⟩
  rw [own_ks_mem]
  constructor
  · exact fun q => R.2.1 x q
  · rintro ⟨a, i, b, c⟩; exact (own_rep_dom R b a c).1
theorem own_l1 {l : List Int64} (h : l.length = 1) : ∃ x0, l = [x0] := by match l, h with | [x0], _ => exact ⟨x0, rfl⟩
theorem own_l2 {l : List Int64} (h : l.length = 2) : ∃ x0 x1, l = [x0, x1] := by match l, h with | [x0, x1], _ => exact ⟨x0, x1, rfl⟩
theorem own_l3 {l : List Int64} (h : l.length = 3) : ∃ x0 x1 x2, l = [x0, x1, x2] := by match l, h with | [x0, x1, x2], _ => exact ⟨x0, x1, x2, rfl⟩
theorem own_ltT {a b c : Int64} (h1 : ¬ b < a) (h2 : ¬ c < b) : ¬ c < a := by rw [Int64.lt_iff_toInt_lt] at *; omega
theorem own_ltN {a b : Int64} (h : a < b) : ¬ b < a := by rw [Int64.lt_iff_toInt_lt] at *; omega
theorem own_str {a b : Int64} (h : ¬ b < a) (n : ¬ a = b) : a < b := by
  rw [Int64.lt_iff_toInt_lt] at *
  have : a.toInt ≠ b.toInt := fun q => n (Int64.toInt_inj.mp q)
  omega

theorem d18_0 : decode jdk_2529_method_15_code 0 = .ok (.iload_n 1, 1) := by decide +kernel
theorem d18_1 : decode jdk_2529_method_15_code 1 = .ok (.istore 4, 2) := by decide +kernel
theorem d18_3 : decode jdk_2529_method_15_code 3 = .ok (.iinc 4 1, 3) := by decide +kernel
theorem d18_6 : decode jdk_2529_method_15_code 6 = .ok (.iload 4, 2) := by decide +kernel
theorem d18_8 : decode jdk_2529_method_15_code 8 = .ok (.iload_n 2, 1) := by decide +kernel
theorem d18_9 : decode jdk_2529_method_15_code 9 = .ok (.if_icmp .ge 60, 3) := by decide +kernel
theorem d18_69 : decode jdk_2529_method_15_code 69 = .ok (.return_, 1) := by decide +kernel
theorem pn_18 : plainName "java/util/DualPivotQuicksort" = true := by first | (simp [plainName, overriddenIn]; done) | decide +kernel
theorem ef_rmi0 (m : MethodId) (a1 : Addr) : entryFrame m #[(.ref a1), (.int (0 : Int32)), (.int (0 : Int32))] 7 = mkF m 0 #[.val (.ref a1), .val (.int (0 : Int32)), .val (.int (0 : Int32)), .unset, .unset, .unset, .unset] [] := by first | (simp [entryFrame, mkF, argsToLocals, Value.category]; done) | rfl
def Qrmi0 (Z : State) (a1 : Addr) (k : ClassId) (h0 : Heap) (n0 : Nat) (v : Option Value) (h : Heap) (L : List Loc) : Prop := v = none ∧ Fr n0 L ∧ Keep h0 h [a1] ∧ Arv Z h a1 k .long (0 : Int32) [] (.long (0 : Int64)) ∧ (True) ∧ (True)
set_option maxRecDepth 65536 in
set_option maxHeartbeats 40000000 in
theorem rmi0 (l : Launch) (Z : State) (a0 : Array Value) (hw : ∀ d ∈ tables_1, d.before a0 Z = true) (ws : List Jvm.Cond) (a1 : Addr) (k : ClassId) (h0 : Heap) (n0 : Nat) (Z0 : n0 ≤ h0.size) (A : Arv Z h0 a1 k .long (0 : Int32) [] (.long (0 : Int64))) (ga : n0 ≤ a1) :
    MetFree l (⟨"java/util/DualPivotQuicksort", "insertionSort", "([JII)V"⟩ : MethodName) (head1 (Jvm.Cond.code (⟨"java/util/DualPivotQuicksort", "insertionSort", "([JII)V"⟩ : MethodName) jdk_2529_method_15_code 7 none :: ws) ({ frames := 0, cells := 0, slots := 0, locals := 0 } : Room)) (fun a U => a = #[(.ref a1), (.int (0 : Int32)), (.int (0 : Int32))] ∧ Z.Warmed39 U.vm ∧ U.heap = h0) (fun _ _ _ _ _ => True) (fun _ U o U' => ∃ v L, o = .returned v ∧ Qrmi0 Z a1 k h0 n0 v U'.heap L ∧ FrameEnd U o U' L ({ frames := 0, cells := 0, slots := 0, locals := 0 } : Room).cells ({ frames := 0, cells := 0, slots := 0, locals := 0 } : Room).slots) := by
  refine MetFree.of_bodySF (plainFor_of_name pn_18) hisR ?_
  intro p e s m args below meth c s₁ Bd hml0 hP hK
  obtain ⟨rfl, hZ, hh⟩ := hP
  have hx := Bd.exec
  have hby := Bd.bytes
  have hml : c.maxLocals = 7 := hml0
  have hown : s.vm.findClass "java/util/DualPivotQuicksort" = some m.cls := findClass_of_methodNamed Bd.named
  have hnm := (name_of_methodNamed Bd.named Bd.method).1
  have X0 : Stand p l e ({ frames := 0, cells := 0, slots := 0, locals := 0 } : Room) s m #[(.ref a1), (.int (0 : Int32)), (.int (0 : Int32))] below meth c s₁ [] 0 0 := Stand.of_body Bd
  have e0 : s₁.heap = h0 := by rw [← hh, Bd.state]; rfl
  have N0 := Fr.nil n0
  have pre0 : ∀ t, Steps p.tables e below (s₁.setTop (mkF m 0 #[.val (.ref a1), .val (.int (0 : Int32)), .val (.int (0 : Int32)), .unset, .unset, .unset, .unset] [])) t → Steps p.tables e below (s₁.setTop (entryFrame m #[(.ref a1), (.int (0 : Int32)), (.int (0 : Int32))] 7)) t := fun t k => castTop (ef_rmi0 m a1) k
  obtain ⟨fs, hr, hrun, hended, hW, hsame⟩ := X0.leave (v := none) (fun _ => rfl) (BodyLoose.notSynchronized Bd)
  refine ⟨_, _, pre0 _ ?_, hrun, hended, _, _, rfl, ?_, ⟨_, rfl⟩, hW, hsame.mono (by decide) (by decide)⟩
  · show Steps p.tables e below (s₁.setTop (mkF m 0 #[.val (.ref a1), .val (.int (0 : Int32)), .val (.int (0 : Int32)), .unset, .unset, .unset, .unset] [])) _
    refine XS.iloadN X0.here hx rfl (hb hby d18_0) rfl ?_
    refine XS.istore X0.here hx rfl (hb hby d18_1) rfl (l' := #[.val (.ref a1), .val (.int (0 : Int32)), .val (.int (0 : Int32)), .unset, .val (.int (0 : Int32)), .unset, .unset]) rfl ?_
    refine XS.iinc X0.here hx rfl (hb hby d18_3) rfl (l' := #[.val (.ref a1), .val (.int (0 : Int32)), .val (.int (0 : Int32)), .unset, .val (.int (1 : Int32)), .unset, .unset]) rfl ?_
    refine XS.iload X0.here hx rfl (hb hby d18_6) rfl ?_
    refine XS.iloadN X0.here hx rfl (hb hby d18_8) rfl ?_
    refine XS.icmpYes X0.here hx rfl (pc0 := 9) (pc' := 69) rfl (hb hby d18_9) rfl (flt (by decide)).2.1 (by decide) (by decide) ?_
    show Steps p.tables e below (s₁.setTop (mkF m 69 #[.val (.ref a1), .val (.int (0 : Int32)), .val (.int (0 : Int32)), .unset, .val (.int (1 : Int32)), .unset, .unset] [])) _
    exact X0.returnOut hx Bd.returns (hb hby d18_69) hr
  · show Qrmi0 Z a1 k h0 n0 _ s₁.heap _
    rw [e0]
    exact ⟨rfl, N0, (Keep.refl h0 [a1]), A, trivial, trivial⟩
theorem pd_5 : parseMethodDescriptor "([JII)V" = some ⟨[(.array .long), .int, .int], none⟩ := by decide +kernel
theorem d17_0 : decode jdk_2529_method_13_code 0 = .ok (.iload 4, 2) := by decide +kernel
theorem d17_2 : decode jdk_2529_method_13_code 2 = .ok (.iconst 1, 1) := by decide +kernel
theorem d17_3 : decode jdk_2529_method_13_code 3 = .ok (.isub, 1) := by decide +kernel
theorem d17_4 : decode jdk_2529_method_13_code 4 = .ok (.istore 5, 2) := by decide +kernel
theorem d17_6 : decode jdk_2529_method_13_code 6 = .ok (.iload 4, 2) := by decide +kernel
theorem d17_8 : decode jdk_2529_method_13_code 8 = .ok (.iload_n 3, 1) := by decide +kernel
theorem d17_9 : decode jdk_2529_method_13_code 9 = .ok (.isub, 1) := by decide +kernel
theorem d17_10 : decode jdk_2529_method_13_code 10 = .ok (.istore 6, 2) := by decide +kernel
theorem d17_12 : decode jdk_2529_method_13_code 12 = .ok (.iload 6, 2) := by decide +kernel
theorem d17_14 : decode jdk_2529_method_13_code 14 = .ok (.bipush 65, 2) := by decide +kernel
theorem d17_16 : decode jdk_2529_method_13_code 16 = .ok (.iload_n 2, 1) := by decide +kernel
theorem d17_17 : decode jdk_2529_method_13_code 17 = .ok (.iadd, 1) := by decide +kernel
theorem d17_18 : decode jdk_2529_method_13_code 18 = .ok (.if_icmp .ge 28, 3) := by decide +kernel
theorem d17_21 : decode jdk_2529_method_13_code 21 = .ok (.iload_n 2, 1) := by decide +kernel
theorem d17_22 : decode jdk_2529_method_13_code 22 = .ok (.iconst 1, 1) := by decide +kernel
theorem d17_23 : decode jdk_2529_method_13_code 23 = .ok (.iand, 1) := by decide +kernel
theorem d17_24 : decode jdk_2529_method_13_code 24 = .ok (.ifCond .le 22, 3) := by decide +kernel
theorem d17_46 : decode jdk_2529_method_13_code 46 = .ok (.iload 6, 2) := by decide +kernel
theorem d17_48 : decode jdk_2529_method_13_code 48 = .ok (.bipush 44, 2) := by decide +kernel
theorem d17_50 : decode jdk_2529_method_13_code 50 = .ok (.if_icmp .ge 11, 3) := by decide +kernel
theorem d17_53 : decode jdk_2529_method_13_code 53 = .ok (.aload_n 1, 1) := by decide +kernel
theorem d17_54 : decode jdk_2529_method_13_code 54 = .ok (.iload_n 3, 1) := by decide +kernel
theorem d17_55 : decode jdk_2529_method_13_code 55 = .ok (.iload 4, 2) := by decide +kernel
theorem d17_57 : decode jdk_2529_method_13_code 57 = .ok (.invokestatic 105, 3) := by decide +kernel
theorem d17_60 : decode jdk_2529_method_13_code 60 = .ok (.return_, 1) := by decide +kernel
theorem pn_17 : plainName "java/util/DualPivotQuicksort" = true := by first | (simp [plainName, overriddenIn]; done) | decide +kernel
theorem ef_rms0 (m : MethodId) (a2 : Addr) : entryFrame m #[.null, (.ref a2), (.int (0 : Int32)), (.int (0 : Int32)), (.int (0 : Int32))] 25 = mkF m 0 #[.val .null, .val (.ref a2), .val (.int (0 : Int32)), .val (.int (0 : Int32)), .val (.int (0 : Int32)), .unset, .unset, .unset, .unset, .unset, .unset, .unset, .unset, .unset, .unset, .unset, .unset, .unset, .unset, .unset, .unset, .unset, .unset, .unset, .unset] [] := by first | (simp [entryFrame, mkF, argsToLocals, Value.category]; done) | rfl
def Qrms0 (Z : State) (a2 : Addr) (k : ClassId) (h0 : Heap) (n0 : Nat) (v : Option Value) (h : Heap) (L : List Loc) : Prop := v = none ∧ Fr n0 L ∧ Keep h0 h [a2] ∧ Arv Z h a2 k .long (0 : Int32) [] (.long (0 : Int64)) ∧ (True) ∧ (True)
set_option maxRecDepth 65536 in
set_option maxHeartbeats 40000000 in
theorem rms0 (l : Launch) (Z : State) (a0 : Array Value) (hw : ∀ d ∈ tables_1, d.before a0 Z = true) (ws : List Jvm.Cond) (a2 : Addr) (k : ClassId) (h0 : Heap) (n0 : Nat) (Z0 : n0 ≤ h0.size) (A : Arv Z h0 a2 k .long (0 : Int32) [] (.long (0 : Int64))) (ga : n0 ≤ a2) :
    MetFree l (⟨"java/util/DualPivotQuicksort", "sort", "(Ljava/util/DualPivotQuicksort$Sorter;[JIII)V"⟩ : MethodName) (head1 (Jvm.Cond.code (⟨"java/util/DualPivotQuicksort", "sort", "(Ljava/util/DualPivotQuicksort$Sorter;[JIII)V"⟩ : MethodName) jdk_2529_method_13_code 25 none :: ws) ({ frames := 1, cells := 0, slots := 0, locals := 18 } : Room)) (fun a U => a = #[.null, (.ref a2), (.int (0 : Int32)), (.int (0 : Int32)), (.int (0 : Int32))] ∧ Z.Warmed39 U.vm ∧ U.heap = h0) (fun _ _ _ _ _ => True) (fun _ U o U' => ∃ v L, o = .returned v ∧ Qrms0 Z a2 k h0 n0 v U'.heap L ∧ FrameEnd U o U' L ({ frames := 1, cells := 0, slots := 0, locals := 18 } : Room).cells ({ frames := 1, cells := 0, slots := 0, locals := 18 } : Room).slots) := by
  refine MetFree.of_bodySF (plainFor_of_name pn_17) hisR ?_
  intro p e s m args below meth c s₁ Bd hml0 hP hK
  obtain ⟨rfl, hZ, hh⟩ := hP
  have hx := Bd.exec
  have hby := Bd.bytes
  have hml : c.maxLocals = 25 := hml0
  have hown : s.vm.findClass "java/util/DualPivotQuicksort" = some m.cls := findClass_of_methodNamed Bd.named
  have hnm := (name_of_methodNamed Bd.named Bd.method).1
  have X0 : Stand p l e ({ frames := 1, cells := 0, slots := 0, locals := 18 } : Room) s m #[.null, (.ref a2), (.int (0 : Int32)), (.int (0 : Int32)), (.int (0 : Int32))] below meth c s₁ [] 0 0 := Stand.of_body Bd
  have e0 : s₁.heap = h0 := by rw [← hh, Bd.state]; rfl
  have N0 := Fr.nil n0
  have pre0 : ∀ t, Steps p.tables e below (s₁.setTop (mkF m 0 #[.val .null, .val (.ref a2), .val (.int (0 : Int32)), .val (.int (0 : Int32)), .val (.int (0 : Int32)), .unset, .unset, .unset, .unset, .unset, .unset, .unset, .unset, .unset, .unset, .unset, .unset, .unset, .unset, .unset, .unset, .unset, .unset, .unset, .unset] [])) t → Steps p.tables e below (s₁.setTop (entryFrame m #[.null, (.ref a2), (.int (0 : Int32)), (.int (0 : Int32)), (.int (0 : Int32))] 25)) t := fun t k => castTop (ef_rms0 m a2) k
  obtain ⟨_, _, ⟨T1, Lq1, kq1, nq1⟩, -, X1, ⟨Lc1, hQ1, lq1, yq1, zq1⟩, st1⟩ := Jvm.LawKit.callS X0 hx (y := (⟨"java/util/DualPivotQuicksort", "insertionSort", "([JII)V"⟩ : MethodName)) hown (mvT hZ (hw _ (own_w 82 rfl))) (mvT hZ (hw _ (own_w 83 rfl))) (mvT hZ (hw _ (own_w 77 rfl))) (mvT hZ (hw _ (own_w 84 rfl))) (by decide) (backOf (W := 0) (rmi0 l Z a0 hw [] a2 k  h0 n0 Z0 A ga) hZ (hw _ (own_w 84 rfl)) (hw _ (own_w 77 rfl)) (by decide) (by decide)) (g := (mkF m 57 #[.val .null, .val (.ref a2), .val (.int (0 : Int32)), .val (.int (0 : Int32)), .val (.int (0 : Int32)), .val (.int (-1 : Int32)), .val (.int (0 : Int32)), .unset, .unset, .unset, .unset, .unset, .unset, .unset, .unset, .unset, .unset, .unset, .unset, .unset, .unset, .unset, .unset, .unset, .unset] [(.int (0 : Int32)), (.int (0 : Int32)), (.ref a2)])) rfl (by rw [hml]; rfl) (argsL := [(.ref a2), (.int (0 : Int32)), (.int (0 : Int32))]) (rest := []) (lenOf pd_5 rfl) rfl (by show 2 * 0 + _ ≤ _; exact Nat.le_of_eq rfl) (hb hby d17_57) (fun _ _ => ⟨rfl, e0, (by decide : 0 + 0 ≤ _), (by decide : 0 + 0 ≤ _)⟩)
  dsimp only [Pt.U, Pt.locs, Pt.cells, Pt.slots] at X1 lq1 yq1 zq1 st1 hQ1
  subst lq1 yq1 zq1
  obtain ⟨rfl, N1q, KC1, u1⟩ := hQ1
  have N1 := Fr.app N0 N1q
  have Z1 : n0 ≤ T1.heap.size := Nat.le_trans Z0 KC1.1
  have K1 : Keep h0 T1.heap [a2] := (Keep.refl h0 [a2]).trans KC1 (allS (Or.inl (own_w 0 rfl)) all0)
  obtain ⟨AV1, so1, pm1⟩ := id u1
  obtain ⟨fs, hr, hrun, hended, hW, hsame⟩ := X1.leave (v := none) (fun _ => rfl) (BodyLoose.notSynchronized Bd)
  refine ⟨_, _, pre0 _ ?_, hrun, hended, _, _, rfl, ?_, ⟨_, rfl⟩, hW, hsame.mono (by decide) (by decide)⟩
  · show Steps p.tables e below (s₁.setTop (mkF m 0 #[.val .null, .val (.ref a2), .val (.int (0 : Int32)), .val (.int (0 : Int32)), .val (.int (0 : Int32)), .unset, .unset, .unset, .unset, .unset, .unset, .unset, .unset, .unset, .unset, .unset, .unset, .unset, .unset, .unset, .unset, .unset, .unset, .unset, .unset] [])) _
    refine XS.iload X0.here hx rfl (hb hby d17_0) rfl ?_
    refine XS.iconst X0.here hx rfl (hb hby d17_2) ?_
    refine XS.isub X0.here hx rfl (hb hby d17_3) rfl ?_
    refine XS.istore X0.here hx rfl (hb hby d17_4) rfl (l' := #[.val .null, .val (.ref a2), .val (.int (0 : Int32)), .val (.int (0 : Int32)), .val (.int (0 : Int32)), .val (.int (-1 : Int32)), .unset, .unset, .unset, .unset, .unset, .unset, .unset, .unset, .unset, .unset, .unset, .unset, .unset, .unset, .unset, .unset, .unset, .unset, .unset]) rfl ?_
    refine XS.iload X0.here hx rfl (hb hby d17_6) rfl ?_
    refine XS.iloadN X0.here hx rfl (hb hby d17_8) rfl ?_
    refine XS.isub X0.here hx rfl (hb hby d17_9) rfl ?_
    refine XS.istore X0.here hx rfl (hb hby d17_10) rfl (l' := #[.val .null, .val (.ref a2), .val (.int (0 : Int32)), .val (.int (0 : Int32)), .val (.int (0 : Int32)), .val (.int (-1 : Int32)), .val (.int (0 : Int32)), .unset, .unset, .unset, .unset, .unset, .unset, .unset, .unset, .unset, .unset, .unset, .unset, .unset, .unset, .unset, .unset, .unset, .unset]) rfl ?_
    refine XS.iload X0.here hx rfl (hb hby d17_12) rfl ?_
    refine XS.bipush X0.here hx rfl (hb hby d17_14) ?_
    refine XS.iloadN X0.here hx rfl (hb hby d17_16) rfl ?_
    refine XS.iadd X0.here hx rfl (hb hby d17_17) rfl ?_
    refine XS.icmpNo X0.here hx rfl (hb hby d17_18) rfl (tlt (by decide)).2.1 ?_
    refine XS.iloadN X0.here hx rfl (hb hby d17_21) rfl ?_
    refine XS.iconst X0.here hx rfl (hb hby d17_22) ?_
    refine XS.iand X0.here hx rfl (hb hby d17_23) rfl ?_
    refine XS.ifYes X0.here hx rfl (pc0 := 24) (pc' := 46) rfl (hb hby d17_24) rfl ((if0 _ _).trans (flt (by decide)).2.2.2) (by decide) (by decide) ?_
    refine XS.iload X0.here hx rfl (hb hby d17_46) rfl ?_
    refine XS.bipush X0.here hx rfl (hb hby d17_48) ?_
    refine XS.icmpNo X0.here hx rfl (hb hby d17_50) rfl (tlt (by decide)).2.1 ?_
    refine XS.aloadN X0.here hx rfl (hb hby d17_53) rfl rfl ?_
    refine XS.iloadN X0.here hx rfl (hb hby d17_54) rfl ?_
    refine XS.iload X0.here hx rfl (hb hby d17_55) rfl ?_
    refine st1 _ ?_
    show Steps p.tables e below (T1.setTop (mkF m 60 #[.val .null, .val (.ref a2), .val (.int (0 : Int32)), .val (.int (0 : Int32)), .val (.int (0 : Int32)), .val (.int (-1 : Int32)), .val (.int (0 : Int32)), .unset, .unset, .unset, .unset, .unset, .unset, .unset, .unset, .unset, .unset, .unset, .unset, .unset, .unset, .unset, .unset, .unset, .unset] [])) _
    exact X1.returnOut hx Bd.returns (hb hby d17_60) hr
  · show Qrms0 Z a2 k h0 n0 _ T1.heap _
    exact ⟨rfl, N1, K1, u1⟩
theorem pd_6 : parseMethodDescriptor "(Ljava/util/DualPivotQuicksort$Sorter;[JIII)V" = some ⟨[(.object "java/util/DualPivotQuicksort$Sorter"), (.array .long), .int, .int, .int], none⟩ := by decide +kernel
theorem d16_0 : decode jdk_2529_method_12_code 0 = .ok (.iload_n 3, 1) := by decide +kernel
theorem d16_1 : decode jdk_2529_method_12_code 1 = .ok (.iload_n 2, 1) := by decide +kernel
theorem d16_2 : decode jdk_2529_method_12_code 2 = .ok (.isub, 1) := by decide +kernel
theorem d16_3 : decode jdk_2529_method_12_code 3 = .ok (.istore 4, 2) := by decide +kernel
theorem d16_5 : decode jdk_2529_method_12_code 5 = .ok (.iload_n 1, 1) := by decide +kernel
theorem d16_6 : decode jdk_2529_method_12_code 6 = .ok (.iconst 1, 1) := by decide +kernel
theorem d16_7 : decode jdk_2529_method_12_code 7 = .ok (.if_icmp .le 61, 3) := by decide +kernel
theorem d16_68 : decode jdk_2529_method_12_code 68 = .ok (.aconst_null, 1) := by decide +kernel
theorem d16_69 : decode jdk_2529_method_12_code 69 = .ok (.aload_n 0, 1) := by decide +kernel
theorem d16_70 : decode jdk_2529_method_12_code 70 = .ok (.iconst 0, 1) := by decide +kernel
theorem d16_71 : decode jdk_2529_method_12_code 71 = .ok (.iload_n 2, 1) := by decide +kernel
theorem d16_72 : decode jdk_2529_method_12_code 72 = .ok (.iload_n 3, 1) := by decide +kernel
theorem d16_73 : decode jdk_2529_method_12_code 73 = .ok (.invokestatic 99, 3) := by decide +kernel
theorem d16_76 : decode jdk_2529_method_12_code 76 = .ok (.return_, 1) := by decide +kernel
theorem pn_16 : plainName "java/util/DualPivotQuicksort" = true := by first | (simp [plainName, overriddenIn]; done) | decide +kernel
theorem ef_rmd0 (m : MethodId) (a1 : Addr) : entryFrame m #[(.ref a1), (.int (0 : Int32)), (.int (0 : Int32)), (.int (0 : Int32))] 7 = mkF m 0 #[.val (.ref a1), .val (.int (0 : Int32)), .val (.int (0 : Int32)), .val (.int (0 : Int32)), .unset, .unset, .unset] [] := by first | (simp [entryFrame, mkF, argsToLocals, Value.category]; done) | rfl
def Qrmd0 (Z : State) (a1 : Addr) (k : ClassId) (h0 : Heap) (n0 : Nat) (v : Option Value) (h : Heap) (L : List Loc) : Prop := v = none ∧ Fr n0 L ∧ Keep h0 h [a1] ∧ Arv Z h a1 k .long (0 : Int32) [] (.long (0 : Int64)) ∧ (True) ∧ (True)
set_option maxRecDepth 65536 in
set_option maxHeartbeats 40000000 in
theorem rmd0 (l : Launch) (Z : State) (a0 : Array Value) (hw : ∀ d ∈ tables_1, d.before a0 Z = true) (ws : List Jvm.Cond) (a1 : Addr) (k : ClassId) (h0 : Heap) (n0 : Nat) (Z0 : n0 ≤ h0.size) (A : Arv Z h0 a1 k .long (0 : Int32) [] (.long (0 : Int64))) (ga : n0 ≤ a1) :
    MetFree l (⟨"java/util/DualPivotQuicksort", "sort", "([JIII)V"⟩ : MethodName) (head1 (Jvm.Cond.code (⟨"java/util/DualPivotQuicksort", "sort", "([JIII)V"⟩ : MethodName) jdk_2529_method_12_code 7 none :: ws) ({ frames := 2, cells := 0, slots := 0, locals := 54 } : Room)) (fun a U => a = #[(.ref a1), (.int (0 : Int32)), (.int (0 : Int32)), (.int (0 : Int32))] ∧ Z.Warmed39 U.vm ∧ U.heap = h0) (fun _ _ _ _ _ => True) (fun _ U o U' => ∃ v L, o = .returned v ∧ Qrmd0 Z a1 k h0 n0 v U'.heap L ∧ FrameEnd U o U' L ({ frames := 2, cells := 0, slots := 0, locals := 54 } : Room).cells ({ frames := 2, cells := 0, slots := 0, locals := 54 } : Room).slots) := by
  refine MetFree.of_bodySF (plainFor_of_name pn_16) hisR ?_
  intro p e s m args below meth c s₁ Bd hml0 hP hK
  obtain ⟨rfl, hZ, hh⟩ := hP
  have hx := Bd.exec
  have hby := Bd.bytes
  have hml : c.maxLocals = 7 := hml0
  have hown : s.vm.findClass "java/util/DualPivotQuicksort" = some m.cls := findClass_of_methodNamed Bd.named
  have hnm := (name_of_methodNamed Bd.named Bd.method).1
  have X0 : Stand p l e ({ frames := 2, cells := 0, slots := 0, locals := 54 } : Room) s m #[(.ref a1), (.int (0 : Int32)), (.int (0 : Int32)), (.int (0 : Int32))] below meth c s₁ [] 0 0 := Stand.of_body Bd
  have e0 : s₁.heap = h0 := by rw [← hh, Bd.state]; rfl
  have N0 := Fr.nil n0
  have pre0 : ∀ t, Steps p.tables e below (s₁.setTop (mkF m 0 #[.val (.ref a1), .val (.int (0 : Int32)), .val (.int (0 : Int32)), .val (.int (0 : Int32)), .unset, .unset, .unset] [])) t → Steps p.tables e below (s₁.setTop (entryFrame m #[(.ref a1), (.int (0 : Int32)), (.int (0 : Int32)), (.int (0 : Int32))] 7)) t := fun t k => castTop (ef_rmd0 m a1) k
  obtain ⟨_, _, ⟨T1, Lq1, kq1, nq1⟩, -, X1, ⟨Lc1, hQ1, lq1, yq1, zq1⟩, st1⟩ := Jvm.LawKit.callS X0 hx (y := (⟨"java/util/DualPivotQuicksort", "sort", "(Ljava/util/DualPivotQuicksort$Sorter;[JIII)V"⟩ : MethodName)) hown (mvT hZ (hw _ (own_w 79 rfl))) (mvT hZ (hw _ (own_w 80 rfl))) (mvT hZ (hw _ (own_w 77 rfl))) (mvT hZ (hw _ (own_w 81 rfl))) (by decide) (backOf (W := 0) (rms0 l Z a0 hw [] a1 k  h0 n0 Z0 A ga) hZ (hw _ (own_w 81 rfl)) (hw _ (own_w 77 rfl)) (by decide) (by decide)) (g := (mkF m 73 #[.val (.ref a1), .val (.int (0 : Int32)), .val (.int (0 : Int32)), .val (.int (0 : Int32)), .val (.int (0 : Int32)), .unset, .unset] [(.int (0 : Int32)), (.int (0 : Int32)), (.int (0 : Int32)), (.ref a1), .null])) rfl (by rw [hml]; rfl) (argsL := [.null, (.ref a1), (.int (0 : Int32)), (.int (0 : Int32)), (.int (0 : Int32))]) (rest := []) (lenOf pd_6 rfl) rfl (by show 2 * 0 + _ ≤ _; exact Nat.le_of_eq rfl) (hb hby d16_73) (fun _ _ => ⟨rfl, e0, (by decide : 0 + 0 ≤ _), (by decide : 0 + 0 ≤ _)⟩)
  dsimp only [Pt.U, Pt.locs, Pt.cells, Pt.slots] at X1 lq1 yq1 zq1 st1 hQ1
  subst lq1 yq1 zq1
  obtain ⟨rfl, N1q, KC1, u1⟩ := hQ1
  have N1 := Fr.app N0 N1q
  have Z1 : n0 ≤ T1.heap.size := Nat.le_trans Z0 KC1.1
  have K1 : Keep h0 T1.heap [a1] := (Keep.refl h0 [a1]).trans KC1 (allS (Or.inl (own_w 0 rfl)) all0)
  obtain ⟨AV1, so1, pm1⟩ := id u1
  obtain ⟨fs, hr, hrun, hended, hW, hsame⟩ := X1.leave (v := none) (fun _ => rfl) (BodyLoose.notSynchronized Bd)
  refine ⟨_, _, pre0 _ ?_, hrun, hended, _, _, rfl, ?_, ⟨_, rfl⟩, hW, hsame.mono (by decide) (by decide)⟩
  · show Steps p.tables e below (s₁.setTop (mkF m 0 #[.val (.ref a1), .val (.int (0 : Int32)), .val (.int (0 : Int32)), .val (.int (0 : Int32)), .unset, .unset, .unset] [])) _
    refine XS.iloadN X0.here hx rfl (hb hby d16_0) rfl ?_
    refine XS.iloadN X0.here hx rfl (hb hby d16_1) rfl ?_
    refine XS.isub X0.here hx rfl (hb hby d16_2) rfl ?_
    refine XS.istore X0.here hx rfl (hb hby d16_3) rfl (l' := #[.val (.ref a1), .val (.int (0 : Int32)), .val (.int (0 : Int32)), .val (.int (0 : Int32)), .val (.int (0 : Int32)), .unset, .unset]) rfl ?_
    refine XS.iloadN X0.here hx rfl (hb hby d16_5) rfl ?_
    refine XS.iconst X0.here hx rfl (hb hby d16_6) ?_
    refine XS.icmpYes X0.here hx rfl (pc0 := 7) (pc' := 68) rfl (hb hby d16_7) rfl (flt (by decide)).2.2.2 (by decide) (by decide) ?_
    refine XS.aconstNull X0.here hx rfl (hb hby d16_68) ?_
    refine XS.aloadN X0.here hx rfl (hb hby d16_69) rfl rfl ?_
    refine XS.iconst X0.here hx rfl (hb hby d16_70) ?_
    refine XS.iloadN X0.here hx rfl (hb hby d16_71) rfl ?_
    refine XS.iloadN X0.here hx rfl (hb hby d16_72) rfl ?_
    refine st1 _ ?_
    show Steps p.tables e below (T1.setTop (mkF m 76 #[.val (.ref a1), .val (.int (0 : Int32)), .val (.int (0 : Int32)), .val (.int (0 : Int32)), .val (.int (0 : Int32)), .unset, .unset] [])) _
    exact X1.returnOut hx Bd.returns (hb hby d16_76) hr
  · show Qrmd0 Z a1 k h0 n0 _ T1.heap _
    exact ⟨rfl, N1, K1, u1⟩
theorem pd_7 : parseMethodDescriptor "([JIII)V" = some ⟨[(.array .long), .int, .int, .int], none⟩ := by decide +kernel
theorem d15_0 : decode jdk_65_method_4_code 0 = .ok (.aload_n 0, 1) := by decide +kernel
theorem d15_1 : decode jdk_65_method_4_code 1 = .ok (.iconst 0, 1) := by decide +kernel
theorem d15_2 : decode jdk_65_method_4_code 2 = .ok (.iconst 0, 1) := by decide +kernel
theorem d15_3 : decode jdk_65_method_4_code 3 = .ok (.aload_n 0, 1) := by decide +kernel
theorem d15_4 : decode jdk_65_method_4_code 4 = .ok (.arraylength, 1) := by decide +kernel
theorem d15_5 : decode jdk_65_method_4_code 5 = .ok (.invokestatic 19, 3) := by decide +kernel
theorem d15_8 : decode jdk_65_method_4_code 8 = .ok (.return_, 1) := by decide +kernel
theorem pn_15 : plainName "java/util/Arrays" = true := by first | (simp [plainName, overriddenIn]; done) | decide +kernel
theorem ef_rma0 (m : MethodId) (a1 : Addr) : entryFrame m #[(.ref a1)] 1 = mkF m 0 #[.val (.ref a1)] [] := by first | (simp [entryFrame, mkF, argsToLocals, Value.category]; done) | rfl
def Qrma0 (Z : State) (a1 : Addr) (k : ClassId) (h0 : Heap) (n0 : Nat) (v : Option Value) (h : Heap) (L : List Loc) : Prop := v = none ∧ Fr n0 L ∧ Keep h0 h [a1] ∧ Arv Z h a1 k .long (0 : Int32) [] (.long (0 : Int64)) ∧ (True) ∧ (True)
set_option maxRecDepth 65536 in
set_option maxHeartbeats 40000000 in
theorem rma0 (l : Launch) (Z : State) (a0 : Array Value) (hw : ∀ d ∈ tables_1, d.before a0 Z = true) (ws : List Jvm.Cond) (a1 : Addr) (k : ClassId) (h0 : Heap) (n0 : Nat) (Z0 : n0 ≤ h0.size) (A : Arv Z h0 a1 k .long (0 : Int32) [] (.long (0 : Int64))) (ga : n0 ≤ a1) :
    MetFree l (⟨"java/util/Arrays", "sort", "([J)V"⟩ : MethodName) (head1 (Jvm.Cond.code (⟨"java/util/Arrays", "sort", "([J)V"⟩ : MethodName) jdk_65_method_4_code 1 none :: ws) ({ frames := 3, cells := 0, slots := 0, locals := 72 } : Room)) (fun a U => a = #[(.ref a1)] ∧ Z.Warmed39 U.vm ∧ U.heap = h0) (fun _ _ _ _ _ => True) (fun _ U o U' => ∃ v L, o = .returned v ∧ Qrma0 Z a1 k h0 n0 v U'.heap L ∧ FrameEnd U o U' L ({ frames := 3, cells := 0, slots := 0, locals := 72 } : Room).cells ({ frames := 3, cells := 0, slots := 0, locals := 72 } : Room).slots) := by
  refine MetFree.of_bodySF (plainFor_of_name pn_15) hisR ?_
  intro p e s m args below meth c s₁ Bd hml0 hP hK
  obtain ⟨rfl, hZ, hh⟩ := hP
  have hx := Bd.exec
  have hby := Bd.bytes
  have hml : c.maxLocals = 1 := hml0
  have hown : s.vm.findClass "java/util/Arrays" = some m.cls := findClass_of_methodNamed Bd.named
  have hnm := (name_of_methodNamed Bd.named Bd.method).1
  have X0 : Stand p l e ({ frames := 3, cells := 0, slots := 0, locals := 72 } : Room) s m #[(.ref a1)] below meth c s₁ [] 0 0 := Stand.of_body Bd
  have e0 : s₁.heap = h0 := by rw [← hh, Bd.state]; rfl
  have N0 := Fr.nil n0
  have pre0 : ∀ t, Steps p.tables e below (s₁.setTop (mkF m 0 #[.val (.ref a1)] [])) t → Steps p.tables e below (s₁.setTop (entryFrame m #[(.ref a1)] 1)) t := fun t k => castTop (ef_rma0 m a1) k
  obtain ⟨cl1, Ar1, qk1, Sz1, Nn1, Hh1, Gg1⟩ := id (A)
  obtain ⟨_, _, ⟨T2, Lq2, kq2, nq2⟩, -, X2, ⟨Lc2, hQ2, lq2, yq2, zq2⟩, st2⟩ := Jvm.LawKit.callS X0 hx (y := (⟨"java/util/DualPivotQuicksort", "sort", "([JIII)V"⟩ : MethodName)) hown (mvT hZ (hw _ (own_w 75 rfl))) (mvT hZ (hw _ (own_w 76 rfl))) (mvT hZ (hw _ (own_w 77 rfl))) (mvT hZ (hw _ (own_w 78 rfl))) (by decide) (backOf (W := 0) (rmd0 l Z a0 hw [] a1 k  h0 n0 Z0 A ga) hZ (hw _ (own_w 78 rfl)) (hw _ (own_w 77 rfl)) (by decide) (by decide)) (g := (mkF m 5 #[.val (.ref a1)] [(.int (0 : Int32)), (.int (0 : Int32)), (.int (0 : Int32)), (.ref a1)])) rfl (by rw [hml]; rfl) (argsL := [(.ref a1), (.int (0 : Int32)), (.int (0 : Int32)), (.int (0 : Int32))]) (rest := []) (lenOf pd_7 rfl) rfl (by show 2 * 0 + _ ≤ _; exact Nat.le_of_eq rfl) (hb hby d15_5) (fun _ _ => ⟨rfl, e0, (by decide : 0 + 0 ≤ _), (by decide : 0 + 0 ≤ _)⟩)
  dsimp only [Pt.U, Pt.locs, Pt.cells, Pt.slots] at X2 lq2 yq2 zq2 st2 hQ2
  subst lq2 yq2 zq2
  obtain ⟨rfl, N2q, KC2, u2⟩ := hQ2
  have N2 := Fr.app N0 N2q
  have Z2 : n0 ≤ T2.heap.size := Nat.le_trans Z0 KC2.1
  have K2 : Keep h0 T2.heap [a1] := (Keep.refl h0 [a1]).trans KC2 (allS (Or.inl (own_w 0 rfl)) all0)
  obtain ⟨AV2, so2, pm2⟩ := id u2
  obtain ⟨fs, hr, hrun, hended, hW, hsame⟩ := X2.leave (v := none) (fun _ => rfl) (BodyLoose.notSynchronized Bd)
  refine ⟨_, _, pre0 _ ?_, hrun, hended, _, _, rfl, ?_, ⟨_, rfl⟩, hW, hsame.mono (by decide) (by decide)⟩
  · show Steps p.tables e below (s₁.setTop (mkF m 0 #[.val (.ref a1)] [])) _
    refine XS.aloadN X0.here hx rfl (hb hby d15_0) rfl rfl ?_
    refine XS.iconst X0.here hx rfl (hb hby d15_1) ?_
    refine XS.iconst X0.here hx rfl (hb hby d15_2) ?_
    refine XS.aloadN X0.here hx rfl (hb hby d15_3) rfl rfl ?_
    refine X0.arraylength hx (by rw [e0]; exact Ar1.1) (State.isArrayOf_alike hZ.alike Ar1.2.1) (g := (mkF m 4 #[.val (.ref a1)] [(.ref a1), (.int (0 : Int32)), (.int (0 : Int32)), (.ref a1)])) rfl rfl (hb hby d15_4) _ ?_
    rw [len_of Sz1 Nn1]
    show Steps p.tables e below (s₁.setTop (mkF m 5 #[.val (.ref a1)] [(.int (0 : Int32)), (.int (0 : Int32)), (.int (0 : Int32)), (.ref a1)])) _
    refine st2 _ ?_
    show Steps p.tables e below (T2.setTop (mkF m 8 #[.val (.ref a1)] [])) _
    exact X2.returnOut hx Bd.returns (hb hby d15_8) hr
  · show Qrma0 Z a1 k h0 n0 _ T2.heap _
    exact ⟨rfl, N2, K2, u2⟩
theorem ef_rmi1 (m : MethodId) (a1 : Addr) : entryFrame m #[(.ref a1), (.int (0 : Int32)), (.int (1 : Int32))] 7 = mkF m 0 #[.val (.ref a1), .val (.int (0 : Int32)), .val (.int (1 : Int32)), .unset, .unset, .unset, .unset] [] := by first | (simp [entryFrame, mkF, argsToLocals, Value.category]; done) | rfl
def Qrmi1 (Z : State) (a1 : Addr) (k : ClassId) (x0 : Int64) (h0 : Heap) (n0 : Nat) (v : Option Value) (h : Heap) (L : List Loc) : Prop := v = none ∧ Fr n0 L ∧ Keep h0 h [a1] ∧ ∃ y0 : Int64, Arv Z h a1 k .long (1 : Int32) [.long y0] (.long (0 : Int64)) ∧ (True) ∧ ((y0 = x0))
set_option maxRecDepth 65536 in
set_option maxHeartbeats 40000000 in
theorem rmi1 (l : Launch) (Z : State) (a0 : Array Value) (hw : ∀ d ∈ tables_1, d.before a0 Z = true) (ws : List Jvm.Cond) (a1 : Addr) (k : ClassId) (x0 : Int64) (h0 : Heap) (n0 : Nat) (Z0 : n0 ≤ h0.size) (A : Arv Z h0 a1 k .long (1 : Int32) [.long x0] (.long (0 : Int64))) (ga : n0 ≤ a1) :
    MetFree l (⟨"java/util/DualPivotQuicksort", "insertionSort", "([JII)V"⟩ : MethodName) (head1 (Jvm.Cond.code (⟨"java/util/DualPivotQuicksort", "insertionSort", "([JII)V"⟩ : MethodName) jdk_2529_method_15_code 7 none :: ws) ({ frames := 0, cells := 0, slots := 0, locals := 0 } : Room)) (fun a U => a = #[(.ref a1), (.int (0 : Int32)), (.int (1 : Int32))] ∧ Z.Warmed39 U.vm ∧ U.heap = h0) (fun _ _ _ _ _ => True) (fun _ U o U' => ∃ v L, o = .returned v ∧ Qrmi1 Z a1 k x0 h0 n0 v U'.heap L ∧ FrameEnd U o U' L ({ frames := 0, cells := 0, slots := 0, locals := 0 } : Room).cells ({ frames := 0, cells := 0, slots := 0, locals := 0 } : Room).slots) := by
  refine MetFree.of_bodySF (plainFor_of_name pn_18) hisR ?_
  intro p e s m args below meth c s₁ Bd hml0 hP hK
  obtain ⟨rfl, hZ, hh⟩ := hP
  have hx := Bd.exec
  have hby := Bd.bytes
  have hml : c.maxLocals = 7 := hml0
  have hown : s.vm.findClass "java/util/DualPivotQuicksort" = some m.cls := findClass_of_methodNamed Bd.named
  have hnm := (name_of_methodNamed Bd.named Bd.method).1
  have X0 : Stand p l e ({ frames := 0, cells := 0, slots := 0, locals := 0 } : Room) s m #[(.ref a1), (.int (0 : Int32)), (.int (1 : Int32))] below meth c s₁ [] 0 0 := Stand.of_body Bd
  have e0 : s₁.heap = h0 := by rw [← hh, Bd.state]; rfl
  have N0 := Fr.nil n0
  have pre0 : ∀ t, Steps p.tables e below (s₁.setTop (mkF m 0 #[.val (.ref a1), .val (.int (0 : Int32)), .val (.int (1 : Int32)), .unset, .unset, .unset, .unset] [])) t → Steps p.tables e below (s₁.setTop (entryFrame m #[(.ref a1), (.int (0 : Int32)), (.int (1 : Int32))] 7)) t := fun t k => castTop (ef_rmi1 m a1) k
  obtain ⟨fs, hr, hrun, hended, hW, hsame⟩ := X0.leave (v := none) (fun _ => rfl) (BodyLoose.notSynchronized Bd)
  refine ⟨_, _, pre0 _ ?_, hrun, hended, _, _, rfl, ?_, ⟨_, rfl⟩, hW, hsame.mono (by decide) (by decide)⟩
  · show Steps p.tables e below (s₁.setTop (mkF m 0 #[.val (.ref a1), .val (.int (0 : Int32)), .val (.int (1 : Int32)), .unset, .unset, .unset, .unset] [])) _
    refine XS.iloadN X0.here hx rfl (hb hby d18_0) rfl ?_
    refine XS.istore X0.here hx rfl (hb hby d18_1) rfl (l' := #[.val (.ref a1), .val (.int (0 : Int32)), .val (.int (1 : Int32)), .unset, .val (.int (0 : Int32)), .unset, .unset]) rfl ?_
    refine XS.iinc X0.here hx rfl (hb hby d18_3) rfl (l' := #[.val (.ref a1), .val (.int (0 : Int32)), .val (.int (1 : Int32)), .unset, .val (.int (1 : Int32)), .unset, .unset]) rfl ?_
    refine XS.iload X0.here hx rfl (hb hby d18_6) rfl ?_
    refine XS.iloadN X0.here hx rfl (hb hby d18_8) rfl ?_
    refine XS.icmpYes X0.here hx rfl (pc0 := 9) (pc' := 69) rfl (hb hby d18_9) rfl (flt (by decide)).2.1 (by decide) (by decide) ?_
    show Steps p.tables e below (s₁.setTop (mkF m 69 #[.val (.ref a1), .val (.int (0 : Int32)), .val (.int (1 : Int32)), .unset, .val (.int (1 : Int32)), .unset, .unset] [])) _
    exact X0.returnOut hx Bd.returns (hb hby d18_69) hr
  · show Qrmi1 Z a1 k x0 h0 n0 _ s₁.heap _
    rw [e0]
    exact ⟨rfl, N0, (Keep.refl h0 [a1]), x0, A, trivial, rfl⟩
theorem ef_rms1 (m : MethodId) (a2 : Addr) : entryFrame m #[.null, (.ref a2), (.int (0 : Int32)), (.int (0 : Int32)), (.int (1 : Int32))] 25 = mkF m 0 #[.val .null, .val (.ref a2), .val (.int (0 : Int32)), .val (.int (0 : Int32)), .val (.int (1 : Int32)), .unset, .unset, .unset, .unset, .unset, .unset, .unset, .unset, .unset, .unset, .unset, .unset, .unset, .unset, .unset, .unset, .unset, .unset, .unset, .unset] [] := by first | (simp [entryFrame, mkF, argsToLocals, Value.category]; done) | rfl
def Qrms1 (Z : State) (a2 : Addr) (k : ClassId) (x0 : Int64) (h0 : Heap) (n0 : Nat) (v : Option Value) (h : Heap) (L : List Loc) : Prop := v = none ∧ Fr n0 L ∧ Keep h0 h [a2] ∧ ∃ y0 : Int64, Arv Z h a2 k .long (1 : Int32) [.long y0] (.long (0 : Int64)) ∧ (True) ∧ ((y0 = x0))
set_option maxRecDepth 65536 in
set_option maxHeartbeats 40000000 in
theorem rms1 (l : Launch) (Z : State) (a0 : Array Value) (hw : ∀ d ∈ tables_1, d.before a0 Z = true) (ws : List Jvm.Cond) (a2 : Addr) (k : ClassId) (x0 : Int64) (h0 : Heap) (n0 : Nat) (Z0 : n0 ≤ h0.size) (A : Arv Z h0 a2 k .long (1 : Int32) [.long x0] (.long (0 : Int64))) (ga : n0 ≤ a2) :
    MetFree l (⟨"java/util/DualPivotQuicksort", "sort", "(Ljava/util/DualPivotQuicksort$Sorter;[JIII)V"⟩ : MethodName) (head1 (Jvm.Cond.code (⟨"java/util/DualPivotQuicksort", "sort", "(Ljava/util/DualPivotQuicksort$Sorter;[JIII)V"⟩ : MethodName) jdk_2529_method_13_code 25 none :: ws) ({ frames := 1, cells := 0, slots := 0, locals := 18 } : Room)) (fun a U => a = #[.null, (.ref a2), (.int (0 : Int32)), (.int (0 : Int32)), (.int (1 : Int32))] ∧ Z.Warmed39 U.vm ∧ U.heap = h0) (fun _ _ _ _ _ => True) (fun _ U o U' => ∃ v L, o = .returned v ∧ Qrms1 Z a2 k x0 h0 n0 v U'.heap L ∧ FrameEnd U o U' L ({ frames := 1, cells := 0, slots := 0, locals := 18 } : Room).cells ({ frames := 1, cells := 0, slots := 0, locals := 18 } : Room).slots) := by
  refine MetFree.of_bodySF (plainFor_of_name pn_17) hisR ?_
  intro p e s m args below meth c s₁ Bd hml0 hP hK
  obtain ⟨rfl, hZ, hh⟩ := hP
  have hx := Bd.exec
  have hby := Bd.bytes
  have hml : c.maxLocals = 25 := hml0
  have hown : s.vm.findClass "java/util/DualPivotQuicksort" = some m.cls := findClass_of_methodNamed Bd.named
  have hnm := (name_of_methodNamed Bd.named Bd.method).1
  have X0 : Stand p l e ({ frames := 1, cells := 0, slots := 0, locals := 18 } : Room) s m #[.null, (.ref a2), (.int (0 : Int32)), (.int (0 : Int32)), (.int (1 : Int32))] below meth c s₁ [] 0 0 := Stand.of_body Bd
  have e0 : s₁.heap = h0 := by rw [← hh, Bd.state]; rfl
  have N0 := Fr.nil n0
  have pre0 : ∀ t, Steps p.tables e below (s₁.setTop (mkF m 0 #[.val .null, .val (.ref a2), .val (.int (0 : Int32)), .val (.int (0 : Int32)), .val (.int (1 : Int32)), .unset, .unset, .unset, .unset, .unset, .unset, .unset, .unset, .unset, .unset, .unset, .unset, .unset, .unset, .unset, .unset, .unset, .unset, .unset, .unset] [])) t → Steps p.tables e below (s₁.setTop (entryFrame m #[.null, (.ref a2), (.int (0 : Int32)), (.int (0 : Int32)), (.int (1 : Int32))] 25)) t := fun t k => castTop (ef_rms1 m a2) k
  obtain ⟨_, _, ⟨T1, Lq1, kq1, nq1⟩, -, X1, ⟨Lc1, hQ1, lq1, yq1, zq1⟩, st1⟩ := Jvm.LawKit.callS X0 hx (y := (⟨"java/util/DualPivotQuicksort", "insertionSort", "([JII)V"⟩ : MethodName)) hown (mvT hZ (hw _ (own_w 82 rfl))) (mvT hZ (hw _ (own_w 83 rfl))) (mvT hZ (hw _ (own_w 77 rfl))) (mvT hZ (hw _ (own_w 84 rfl))) (by decide) (backOf (W := 0) (rmi1 l Z a0 hw [] a2 k x0 h0 n0 Z0 A ga) hZ (hw _ (own_w 84 rfl)) (hw _ (own_w 77 rfl)) (by decide) (by decide)) (g := (mkF m 57 #[.val .null, .val (.ref a2), .val (.int (0 : Int32)), .val (.int (0 : Int32)), .val (.int (1 : Int32)), .val (.int (0 : Int32)), .val (.int (1 : Int32)), .unset, .unset, .unset, .unset, .unset, .unset, .unset, .unset, .unset, .unset, .unset, .unset, .unset, .unset, .unset, .unset, .unset, .unset] [(.int (1 : Int32)), (.int (0 : Int32)), (.ref a2)])) rfl (by rw [hml]; rfl) (argsL := [(.ref a2), (.int (0 : Int32)), (.int (1 : Int32))]) (rest := []) (lenOf pd_5 rfl) rfl (by show 2 * 0 + _ ≤ _; exact Nat.le_of_eq rfl) (hb hby d17_57) (fun _ _ => ⟨rfl, e0, (by decide : 0 + 0 ≤ _), (by decide : 0 + 0 ≤ _)⟩)
  dsimp only [Pt.U, Pt.locs, Pt.cells, Pt.slots] at X1 lq1 yq1 zq1 st1 hQ1
  subst lq1 yq1 zq1
  obtain ⟨rfl, N1q, KC1, u1⟩ := hQ1
  have N1 := Fr.app N0 N1q
  have Z1 : n0 ≤ T1.heap.size := Nat.le_trans Z0 KC1.1
  have K1 : Keep h0 T1.heap [a2] := (Keep.refl h0 [a2]).trans KC1 (allS (Or.inl (own_w 0 rfl)) all0)
  obtain ⟨y1_0, AV1, so1, pm1⟩ := id u1
  obtain ⟨fs, hr, hrun, hended, hW, hsame⟩ := X1.leave (v := none) (fun _ => rfl) (BodyLoose.notSynchronized Bd)
  refine ⟨_, _, pre0 _ ?_, hrun, hended, _, _, rfl, ?_, ⟨_, rfl⟩, hW, hsame.mono (by decide) (by decide)⟩
  · show Steps p.tables e below (s₁.setTop (mkF m 0 #[.val .null, .val (.ref a2), .val (.int (0 : Int32)), .val (.int (0 : Int32)), .val (.int (1 : Int32)), .unset, .unset, .unset, .unset, .unset, .unset, .unset, .unset, .unset, .unset, .unset, .unset, .unset, .unset, .unset, .unset, .unset, .unset, .unset, .unset] [])) _
    refine XS.iload X0.here hx rfl (hb hby d17_0) rfl ?_
    refine XS.iconst X0.here hx rfl (hb hby d17_2) ?_
    refine XS.isub X0.here hx rfl (hb hby d17_3) rfl ?_
    refine XS.istore X0.here hx rfl (hb hby d17_4) rfl (l' := #[.val .null, .val (.ref a2), .val (.int (0 : Int32)), .val (.int (0 : Int32)), .val (.int (1 : Int32)), .val (.int (0 : Int32)), .unset, .unset, .unset, .unset, .unset, .unset, .unset, .unset, .unset, .unset, .unset, .unset, .unset, .unset, .unset, .unset, .unset, .unset, .unset]) rfl ?_
    refine XS.iload X0.here hx rfl (hb hby d17_6) rfl ?_
    refine XS.iloadN X0.here hx rfl (hb hby d17_8) rfl ?_
    refine XS.isub X0.here hx rfl (hb hby d17_9) rfl ?_
    refine XS.istore X0.here hx rfl (hb hby d17_10) rfl (l' := #[.val .null, .val (.ref a2), .val (.int (0 : Int32)), .val (.int (0 : Int32)), .val (.int (1 : Int32)), .val (.int (0 : Int32)), .val (.int (1 : Int32)), .unset, .unset, .unset, .unset, .unset, .unset, .unset, .unset, .unset, .unset, .unset, .unset, .unset, .unset, .unset, .unset, .unset, .unset]) rfl ?_
    refine XS.iload X0.here hx rfl (hb hby d17_12) rfl ?_
    refine XS.bipush X0.here hx rfl (hb hby d17_14) ?_
    refine XS.iloadN X0.here hx rfl (hb hby d17_16) rfl ?_
    refine XS.iadd X0.here hx rfl (hb hby d17_17) rfl ?_
    refine XS.icmpNo X0.here hx rfl (hb hby d17_18) rfl (tlt (by decide)).2.1 ?_
    refine XS.iloadN X0.here hx rfl (hb hby d17_21) rfl ?_
    refine XS.iconst X0.here hx rfl (hb hby d17_22) ?_
    refine XS.iand X0.here hx rfl (hb hby d17_23) rfl ?_
    refine XS.ifYes X0.here hx rfl (pc0 := 24) (pc' := 46) rfl (hb hby d17_24) rfl ((if0 _ _).trans (flt (by decide)).2.2.2) (by decide) (by decide) ?_
    refine XS.iload X0.here hx rfl (hb hby d17_46) rfl ?_
    refine XS.bipush X0.here hx rfl (hb hby d17_48) ?_
    refine XS.icmpNo X0.here hx rfl (hb hby d17_50) rfl (tlt (by decide)).2.1 ?_
    refine XS.aloadN X0.here hx rfl (hb hby d17_53) rfl rfl ?_
    refine XS.iloadN X0.here hx rfl (hb hby d17_54) rfl ?_
    refine XS.iload X0.here hx rfl (hb hby d17_55) rfl ?_
    refine st1 _ ?_
    show Steps p.tables e below (T1.setTop (mkF m 60 #[.val .null, .val (.ref a2), .val (.int (0 : Int32)), .val (.int (0 : Int32)), .val (.int (1 : Int32)), .val (.int (0 : Int32)), .val (.int (1 : Int32)), .unset, .unset, .unset, .unset, .unset, .unset, .unset, .unset, .unset, .unset, .unset, .unset, .unset, .unset, .unset, .unset, .unset, .unset] [])) _
    exact X1.returnOut hx Bd.returns (hb hby d17_60) hr
  · show Qrms1 Z a2 k x0 h0 n0 _ T1.heap _
    exact ⟨rfl, N1, K1, u1⟩
theorem ef_rmd1 (m : MethodId) (a1 : Addr) : entryFrame m #[(.ref a1), (.int (0 : Int32)), (.int (0 : Int32)), (.int (1 : Int32))] 7 = mkF m 0 #[.val (.ref a1), .val (.int (0 : Int32)), .val (.int (0 : Int32)), .val (.int (1 : Int32)), .unset, .unset, .unset] [] := by first | (simp [entryFrame, mkF, argsToLocals, Value.category]; done) | rfl
def Qrmd1 (Z : State) (a1 : Addr) (k : ClassId) (x0 : Int64) (h0 : Heap) (n0 : Nat) (v : Option Value) (h : Heap) (L : List Loc) : Prop := v = none ∧ Fr n0 L ∧ Keep h0 h [a1] ∧ ∃ y0 : Int64, Arv Z h a1 k .long (1 : Int32) [.long y0] (.long (0 : Int64)) ∧ (True) ∧ ((y0 = x0))
set_option maxRecDepth 65536 in
set_option maxHeartbeats 40000000 in
theorem rmd1 (l : Launch) (Z : State) (a0 : Array Value) (hw : ∀ d ∈ tables_1, d.before a0 Z = true) (ws : List Jvm.Cond) (a1 : Addr) (k : ClassId) (x0 : Int64) (h0 : Heap) (n0 : Nat) (Z0 : n0 ≤ h0.size) (A : Arv Z h0 a1 k .long (1 : Int32) [.long x0] (.long (0 : Int64))) (ga : n0 ≤ a1) :
    MetFree l (⟨"java/util/DualPivotQuicksort", "sort", "([JIII)V"⟩ : MethodName) (head1 (Jvm.Cond.code (⟨"java/util/DualPivotQuicksort", "sort", "([JIII)V"⟩ : MethodName) jdk_2529_method_12_code 7 none :: ws) ({ frames := 2, cells := 0, slots := 0, locals := 54 } : Room)) (fun a U => a = #[(.ref a1), (.int (0 : Int32)), (.int (0 : Int32)), (.int (1 : Int32))] ∧ Z.Warmed39 U.vm ∧ U.heap = h0) (fun _ _ _ _ _ => True) (fun _ U o U' => ∃ v L, o = .returned v ∧ Qrmd1 Z a1 k x0 h0 n0 v U'.heap L ∧ FrameEnd U o U' L ({ frames := 2, cells := 0, slots := 0, locals := 54 } : Room).cells ({ frames := 2, cells := 0, slots := 0, locals := 54 } : Room).slots) := by
  refine MetFree.of_bodySF (plainFor_of_name pn_16) hisR ?_
  intro p e s m args below meth c s₁ Bd hml0 hP hK
  obtain ⟨rfl, hZ, hh⟩ := hP
  have hx := Bd.exec
  have hby := Bd.bytes
  have hml : c.maxLocals = 7 := hml0
  have hown : s.vm.findClass "java/util/DualPivotQuicksort" = some m.cls := findClass_of_methodNamed Bd.named
  have hnm := (name_of_methodNamed Bd.named Bd.method).1
  have X0 : Stand p l e ({ frames := 2, cells := 0, slots := 0, locals := 54 } : Room) s m #[(.ref a1), (.int (0 : Int32)), (.int (0 : Int32)), (.int (1 : Int32))] below meth c s₁ [] 0 0 := Stand.of_body Bd
  have e0 : s₁.heap = h0 := by rw [← hh, Bd.state]; rfl
  have N0 := Fr.nil n0
  have pre0 : ∀ t, Steps p.tables e below (s₁.setTop (mkF m 0 #[.val (.ref a1), .val (.int (0 : Int32)), .val (.int (0 : Int32)), .val (.int (1 : Int32)), .unset, .unset, .unset] [])) t → Steps p.tables e below (s₁.setTop (entryFrame m #[(.ref a1), (.int (0 : Int32)), (.int (0 : Int32)), (.int (1 : Int32))] 7)) t := fun t k => castTop (ef_rmd1 m a1) k
  obtain ⟨_, _, ⟨T1, Lq1, kq1, nq1⟩, -, X1, ⟨Lc1, hQ1, lq1, yq1, zq1⟩, st1⟩ := Jvm.LawKit.callS X0 hx (y := (⟨"java/util/DualPivotQuicksort", "sort", "(Ljava/util/DualPivotQuicksort$Sorter;[JIII)V"⟩ : MethodName)) hown (mvT hZ (hw _ (own_w 79 rfl))) (mvT hZ (hw _ (own_w 80 rfl))) (mvT hZ (hw _ (own_w 77 rfl))) (mvT hZ (hw _ (own_w 81 rfl))) (by decide) (backOf (W := 0) (rms1 l Z a0 hw [] a1 k x0 h0 n0 Z0 A ga) hZ (hw _ (own_w 81 rfl)) (hw _ (own_w 77 rfl)) (by decide) (by decide)) (g := (mkF m 73 #[.val (.ref a1), .val (.int (0 : Int32)), .val (.int (0 : Int32)), .val (.int (1 : Int32)), .val (.int (1 : Int32)), .unset, .unset] [(.int (1 : Int32)), (.int (0 : Int32)), (.int (0 : Int32)), (.ref a1), .null])) rfl (by rw [hml]; rfl) (argsL := [.null, (.ref a1), (.int (0 : Int32)), (.int (0 : Int32)), (.int (1 : Int32))]) (rest := []) (lenOf pd_6 rfl) rfl (by show 2 * 0 + _ ≤ _; exact Nat.le_of_eq rfl) (hb hby d16_73) (fun _ _ => ⟨rfl, e0, (by decide : 0 + 0 ≤ _), (by decide : 0 + 0 ≤ _)⟩)
  dsimp only [Pt.U, Pt.locs, Pt.cells, Pt.slots] at X1 lq1 yq1 zq1 st1 hQ1
  subst lq1 yq1 zq1
  obtain ⟨rfl, N1q, KC1, u1⟩ := hQ1
  have N1 := Fr.app N0 N1q
  have Z1 : n0 ≤ T1.heap.size := Nat.le_trans Z0 KC1.1
  have K1 : Keep h0 T1.heap [a1] := (Keep.refl h0 [a1]).trans KC1 (allS (Or.inl (own_w 0 rfl)) all0)
  obtain ⟨y1_0, AV1, so1, pm1⟩ := id u1
  obtain ⟨fs, hr, hrun, hended, hW, hsame⟩ := X1.leave (v := none) (fun _ => rfl) (BodyLoose.notSynchronized Bd)
  refine ⟨_, _, pre0 _ ?_, hrun, hended, _, _, rfl, ?_, ⟨_, rfl⟩, hW, hsame.mono (by decide) (by decide)⟩
  · show Steps p.tables e below (s₁.setTop (mkF m 0 #[.val (.ref a1), .val (.int (0 : Int32)), .val (.int (0 : Int32)), .val (.int (1 : Int32)), .unset, .unset, .unset] [])) _
    refine XS.iloadN X0.here hx rfl (hb hby d16_0) rfl ?_
    refine XS.iloadN X0.here hx rfl (hb hby d16_1) rfl ?_
    refine XS.isub X0.here hx rfl (hb hby d16_2) rfl ?_
    refine XS.istore X0.here hx rfl (hb hby d16_3) rfl (l' := #[.val (.ref a1), .val (.int (0 : Int32)), .val (.int (0 : Int32)), .val (.int (1 : Int32)), .val (.int (1 : Int32)), .unset, .unset]) rfl ?_
    refine XS.iloadN X0.here hx rfl (hb hby d16_5) rfl ?_
    refine XS.iconst X0.here hx rfl (hb hby d16_6) ?_
    refine XS.icmpYes X0.here hx rfl (pc0 := 7) (pc' := 68) rfl (hb hby d16_7) rfl (flt (by decide)).2.2.2 (by decide) (by decide) ?_
    refine XS.aconstNull X0.here hx rfl (hb hby d16_68) ?_
    refine XS.aloadN X0.here hx rfl (hb hby d16_69) rfl rfl ?_
    refine XS.iconst X0.here hx rfl (hb hby d16_70) ?_
    refine XS.iloadN X0.here hx rfl (hb hby d16_71) rfl ?_
    refine XS.iloadN X0.here hx rfl (hb hby d16_72) rfl ?_
    refine st1 _ ?_
    show Steps p.tables e below (T1.setTop (mkF m 76 #[.val (.ref a1), .val (.int (0 : Int32)), .val (.int (0 : Int32)), .val (.int (1 : Int32)), .val (.int (1 : Int32)), .unset, .unset] [])) _
    exact X1.returnOut hx Bd.returns (hb hby d16_76) hr
  · show Qrmd1 Z a1 k x0 h0 n0 _ T1.heap _
    exact ⟨rfl, N1, K1, u1⟩
theorem ef_rma1 (m : MethodId) (a1 : Addr) : entryFrame m #[(.ref a1)] 1 = mkF m 0 #[.val (.ref a1)] [] := by first | (simp [entryFrame, mkF, argsToLocals, Value.category]; done) | rfl
def Qrma1 (Z : State) (a1 : Addr) (k : ClassId) (x0 : Int64) (h0 : Heap) (n0 : Nat) (v : Option Value) (h : Heap) (L : List Loc) : Prop := v = none ∧ Fr n0 L ∧ Keep h0 h [a1] ∧ ∃ y0 : Int64, Arv Z h a1 k .long (1 : Int32) [.long y0] (.long (0 : Int64)) ∧ (True) ∧ ((y0 = x0))
set_option maxRecDepth 65536 in
set_option maxHeartbeats 40000000 in
theorem rma1 (l : Launch) (Z : State) (a0 : Array Value) (hw : ∀ d ∈ tables_1, d.before a0 Z = true) (ws : List Jvm.Cond) (a1 : Addr) (k : ClassId) (x0 : Int64) (h0 : Heap) (n0 : Nat) (Z0 : n0 ≤ h0.size) (A : Arv Z h0 a1 k .long (1 : Int32) [.long x0] (.long (0 : Int64))) (ga : n0 ≤ a1) :
    MetFree l (⟨"java/util/Arrays", "sort", "([J)V"⟩ : MethodName) (head1 (Jvm.Cond.code (⟨"java/util/Arrays", "sort", "([J)V"⟩ : MethodName) jdk_65_method_4_code 1 none :: ws) ({ frames := 3, cells := 0, slots := 0, locals := 72 } : Room)) (fun a U => a = #[(.ref a1)] ∧ Z.Warmed39 U.vm ∧ U.heap = h0) (fun _ _ _ _ _ => True) (fun _ U o U' => ∃ v L, o = .returned v ∧ Qrma1 Z a1 k x0 h0 n0 v U'.heap L ∧ FrameEnd U o U' L ({ frames := 3, cells := 0, slots := 0, locals := 72 } : Room).cells ({ frames := 3, cells := 0, slots := 0, locals := 72 } : Room).slots) := by
  refine MetFree.of_bodySF (plainFor_of_name pn_15) hisR ?_
  intro p e s m args below meth c s₁ Bd hml0 hP hK
  obtain ⟨rfl, hZ, hh⟩ := hP
  have hx := Bd.exec
  have hby := Bd.bytes
  have hml : c.maxLocals = 1 := hml0
  have hown : s.vm.findClass "java/util/Arrays" = some m.cls := findClass_of_methodNamed Bd.named
  have hnm := (name_of_methodNamed Bd.named Bd.method).1
  have X0 : Stand p l e ({ frames := 3, cells := 0, slots := 0, locals := 72 } : Room) s m #[(.ref a1)] below meth c s₁ [] 0 0 := Stand.of_body Bd
  have e0 : s₁.heap = h0 := by rw [← hh, Bd.state]; rfl
  have N0 := Fr.nil n0
  have pre0 : ∀ t, Steps p.tables e below (s₁.setTop (mkF m 0 #[.val (.ref a1)] [])) t → Steps p.tables e below (s₁.setTop (entryFrame m #[(.ref a1)] 1)) t := fun t k => castTop (ef_rma1 m a1) k
  obtain ⟨cl1, Ar1, qk1, Sz1, Nn1, Hh1, Gg1⟩ := id (A)
  obtain ⟨_, _, ⟨T2, Lq2, kq2, nq2⟩, -, X2, ⟨Lc2, hQ2, lq2, yq2, zq2⟩, st2⟩ := Jvm.LawKit.callS X0 hx (y := (⟨"java/util/DualPivotQuicksort", "sort", "([JIII)V"⟩ : MethodName)) hown (mvT hZ (hw _ (own_w 75 rfl))) (mvT hZ (hw _ (own_w 76 rfl))) (mvT hZ (hw _ (own_w 77 rfl))) (mvT hZ (hw _ (own_w 78 rfl))) (by decide) (backOf (W := 0) (rmd1 l Z a0 hw [] a1 k x0 h0 n0 Z0 A ga) hZ (hw _ (own_w 78 rfl)) (hw _ (own_w 77 rfl)) (by decide) (by decide)) (g := (mkF m 5 #[.val (.ref a1)] [(.int (1 : Int32)), (.int (0 : Int32)), (.int (0 : Int32)), (.ref a1)])) rfl (by rw [hml]; rfl) (argsL := [(.ref a1), (.int (0 : Int32)), (.int (0 : Int32)), (.int (1 : Int32))]) (rest := []) (lenOf pd_7 rfl) rfl (by show 2 * 0 + _ ≤ _; exact Nat.le_of_eq rfl) (hb hby d15_5) (fun _ _ => ⟨rfl, e0, (by decide : 0 + 0 ≤ _), (by decide : 0 + 0 ≤ _)⟩)
  dsimp only [Pt.U, Pt.locs, Pt.cells, Pt.slots] at X2 lq2 yq2 zq2 st2 hQ2
  subst lq2 yq2 zq2
  obtain ⟨rfl, N2q, KC2, u2⟩ := hQ2
  have N2 := Fr.app N0 N2q
  have Z2 : n0 ≤ T2.heap.size := Nat.le_trans Z0 KC2.1
  have K2 : Keep h0 T2.heap [a1] := (Keep.refl h0 [a1]).trans KC2 (allS (Or.inl (own_w 0 rfl)) all0)
  obtain ⟨y2_0, AV2, so2, pm2⟩ := id u2
  obtain ⟨fs, hr, hrun, hended, hW, hsame⟩ := X2.leave (v := none) (fun _ => rfl) (BodyLoose.notSynchronized Bd)
  refine ⟨_, _, pre0 _ ?_, hrun, hended, _, _, rfl, ?_, ⟨_, rfl⟩, hW, hsame.mono (by decide) (by decide)⟩
  · show Steps p.tables e below (s₁.setTop (mkF m 0 #[.val (.ref a1)] [])) _
    refine XS.aloadN X0.here hx rfl (hb hby d15_0) rfl rfl ?_
    refine XS.iconst X0.here hx rfl (hb hby d15_1) ?_
    refine XS.iconst X0.here hx rfl (hb hby d15_2) ?_
    refine XS.aloadN X0.here hx rfl (hb hby d15_3) rfl rfl ?_
    refine X0.arraylength hx (by rw [e0]; exact Ar1.1) (State.isArrayOf_alike hZ.alike Ar1.2.1) (g := (mkF m 4 #[.val (.ref a1)] [(.ref a1), (.int (0 : Int32)), (.int (0 : Int32)), (.ref a1)])) rfl rfl (hb hby d15_4) _ ?_
    rw [len_of Sz1 Nn1]
    show Steps p.tables e below (s₁.setTop (mkF m 5 #[.val (.ref a1)] [(.int (1 : Int32)), (.int (0 : Int32)), (.int (0 : Int32)), (.ref a1)])) _
    refine st2 _ ?_
    show Steps p.tables e below (T2.setTop (mkF m 8 #[.val (.ref a1)] [])) _
    exact X2.returnOut hx Bd.returns (hb hby d15_8) hr
  · show Qrma1 Z a1 k x0 h0 n0 _ T2.heap _
    exact ⟨rfl, N2, K2, u2⟩
theorem d18_12 : decode jdk_2529_method_15_code 12 = .ok (.aload_n 0, 1) := by decide +kernel
theorem d18_13 : decode jdk_2529_method_15_code 13 = .ok (.iload 4, 2) := by decide +kernel
theorem d18_15 : decode jdk_2529_method_15_code 15 = .ok (.dup, 1) := by decide +kernel
theorem d18_16 : decode jdk_2529_method_15_code 16 = .ok (.istore_n 3, 1) := by decide +kernel
theorem d18_17 : decode jdk_2529_method_15_code 17 = .ok (.laload, 1) := by decide +kernel
theorem d18_18 : decode jdk_2529_method_15_code 18 = .ok (.lstore 5, 2) := by decide +kernel
theorem d18_20 : decode jdk_2529_method_15_code 20 = .ok (.lload 5, 2) := by decide +kernel
theorem d18_22 : decode jdk_2529_method_15_code 22 = .ok (.aload_n 0, 1) := by decide +kernel
theorem d18_23 : decode jdk_2529_method_15_code 23 = .ok (.iload_n 3, 1) := by decide +kernel
theorem d18_24 : decode jdk_2529_method_15_code 24 = .ok (.iconst 1, 1) := by decide +kernel
theorem d18_25 : decode jdk_2529_method_15_code 25 = .ok (.isub, 1) := by decide +kernel
theorem d18_26 : decode jdk_2529_method_15_code 26 = .ok (.laload, 1) := by decide +kernel
theorem d18_27 : decode jdk_2529_method_15_code 27 = .ok (.lcmp, 1) := by decide +kernel
theorem d18_28 : decode jdk_2529_method_15_code 28 = .ok (.ifCond .ge 38, 3) := by decide +kernel
theorem d18_31 : decode jdk_2529_method_15_code 31 = .ok (.iinc 3 (-1), 3) := by decide +kernel
theorem d18_34 : decode jdk_2529_method_15_code 34 = .ok (.iload_n 3, 1) := by decide +kernel
theorem d18_35 : decode jdk_2529_method_15_code 35 = .ok (.iload_n 1, 1) := by decide +kernel
theorem d18_36 : decode jdk_2529_method_15_code 36 = .ok (.if_icmp .lt 23, 3) := by decide +kernel
theorem d18_39 : decode jdk_2529_method_15_code 39 = .ok (.lload 5, 2) := by decide +kernel
theorem d18_41 : decode jdk_2529_method_15_code 41 = .ok (.aload_n 0, 1) := by decide +kernel
theorem d18_42 : decode jdk_2529_method_15_code 42 = .ok (.iload_n 3, 1) := by decide +kernel
theorem d18_43 : decode jdk_2529_method_15_code 43 = .ok (.laload, 1) := by decide +kernel
theorem d18_44 : decode jdk_2529_method_15_code 44 = .ok (.lcmp, 1) := by decide +kernel
theorem d18_45 : decode jdk_2529_method_15_code 45 = .ok (.ifCond .ge 14, 3) := by decide +kernel
theorem d18_48 : decode jdk_2529_method_15_code 48 = .ok (.aload_n 0, 1) := by decide +kernel
theorem d18_49 : decode jdk_2529_method_15_code 49 = .ok (.iload_n 3, 1) := by decide +kernel
theorem d18_50 : decode jdk_2529_method_15_code 50 = .ok (.iconst 1, 1) := by decide +kernel
theorem d18_51 : decode jdk_2529_method_15_code 51 = .ok (.iadd, 1) := by decide +kernel
theorem d18_52 : decode jdk_2529_method_15_code 52 = .ok (.aload_n 0, 1) := by decide +kernel
theorem d18_53 : decode jdk_2529_method_15_code 53 = .ok (.iload_n 3, 1) := by decide +kernel
theorem d18_54 : decode jdk_2529_method_15_code 54 = .ok (.laload, 1) := by decide +kernel
theorem d18_55 : decode jdk_2529_method_15_code 55 = .ok (.lastore, 1) := by decide +kernel
theorem d18_56 : decode jdk_2529_method_15_code 56 = .ok (.goto (-25), 3) := by decide +kernel
theorem d18_59 : decode jdk_2529_method_15_code 59 = .ok (.aload_n 0, 1) := by decide +kernel
theorem d18_60 : decode jdk_2529_method_15_code 60 = .ok (.iload_n 3, 1) := by decide +kernel
theorem d18_61 : decode jdk_2529_method_15_code 61 = .ok (.iconst 1, 1) := by decide +kernel
theorem d18_62 : decode jdk_2529_method_15_code 62 = .ok (.iadd, 1) := by decide +kernel
theorem d18_63 : decode jdk_2529_method_15_code 63 = .ok (.lload 5, 2) := by decide +kernel
theorem d18_65 : decode jdk_2529_method_15_code 65 = .ok (.lastore, 1) := by decide +kernel
theorem d18_66 : decode jdk_2529_method_15_code 66 = .ok (.goto (-63), 3) := by decide +kernel
theorem ef_rmi2 (m : MethodId) (a1 : Addr) : entryFrame m #[(.ref a1), (.int (0 : Int32)), (.int (2 : Int32))] 7 = mkF m 0 #[.val (.ref a1), .val (.int (0 : Int32)), .val (.int (2 : Int32)), .unset, .unset, .unset, .unset] [] := by first | (simp [entryFrame, mkF, argsToLocals, Value.category]; done) | rfl
def Qrmi2 (Z : State) (a1 : Addr) (k : ClassId) (x0 : Int64) (x1 : Int64) (h0 : Heap) (n0 : Nat) (v : Option Value) (h : Heap) (L : List Loc) : Prop := v = none ∧ Fr n0 L ∧ Keep h0 h [a1] ∧ ∃ y0 y1 : Int64, Arv Z h a1 k .long (2 : Int32) [.long y0, .long y1] (.long (0 : Int64)) ∧ (¬ y1 < y0) ∧ ((y0 = x0 ∧ y1 = x1) ∨ (y0 = x1 ∧ y1 = x0))
set_option maxRecDepth 65536 in
set_option maxHeartbeats 40000000 in
theorem rmi2 (l : Launch) (Z : State) (a0 : Array Value) (hw : ∀ d ∈ tables_1, d.before a0 Z = true) (ws : List Jvm.Cond) (a1 : Addr) (k : ClassId) (x0 : Int64) (x1 : Int64) (h0 : Heap) (n0 : Nat) (Z0 : n0 ≤ h0.size) (A : Arv Z h0 a1 k .long (2 : Int32) [.long x0, .long x1] (.long (0 : Int64))) (ga : n0 ≤ a1) :
    MetFree l (⟨"java/util/DualPivotQuicksort", "insertionSort", "([JII)V"⟩ : MethodName) (head1 (Jvm.Cond.code (⟨"java/util/DualPivotQuicksort", "insertionSort", "([JII)V"⟩ : MethodName) jdk_2529_method_15_code 7 none :: ws) ({ frames := 0, cells := 0, slots := 0, locals := 0 } : Room)) (fun a U => a = #[(.ref a1), (.int (0 : Int32)), (.int (2 : Int32))] ∧ Z.Warmed39 U.vm ∧ U.heap = h0) (fun _ _ _ _ _ => True) (fun _ U o U' => ∃ v L, o = .returned v ∧ Qrmi2 Z a1 k x0 x1 h0 n0 v U'.heap L ∧ FrameEnd U o U' L ({ frames := 0, cells := 0, slots := 0, locals := 0 } : Room).cells ({ frames := 0, cells := 0, slots := 0, locals := 0 } : Room).slots) := by
  refine MetFree.of_bodySF (plainFor_of_name pn_18) hisR ?_
  intro p e s m args below meth c s₁ Bd hml0 hP hK
  obtain ⟨rfl, hZ, hh⟩ := hP
  have hx := Bd.exec
  have hby := Bd.bytes
  have hml : c.maxLocals = 7 := hml0
  have hown : s.vm.findClass "java/util/DualPivotQuicksort" = some m.cls := findClass_of_methodNamed Bd.named
  have hnm := (name_of_methodNamed Bd.named Bd.method).1
  have X0 : Stand p l e ({ frames := 0, cells := 0, slots := 0, locals := 0 } : Room) s m #[(.ref a1), (.int (0 : Int32)), (.int (2 : Int32))] below meth c s₁ [] 0 0 := Stand.of_body Bd
  have e0 : s₁.heap = h0 := by rw [← hh, Bd.state]; rfl
  have N0 := Fr.nil n0
  have pre0 : ∀ t, Steps p.tables e below (s₁.setTop (mkF m 0 #[.val (.ref a1), .val (.int (0 : Int32)), .val (.int (2 : Int32)), .unset, .unset, .unset, .unset] [])) t → Steps p.tables e below (s₁.setTop (entryFrame m #[(.ref a1), (.int (0 : Int32)), (.int (2 : Int32))] 7)) t := fun t k => castTop (ef_rmi2 m a1) k
  obtain ⟨cl1, Ar1, qk1, Sz1, Nn1, Hh1, Gg1⟩ := id (A)
  have hin2 : ¬ ((1 : Int32) < 0 ∨ cl1.slots.size ≤ ((1 : Int32)).toNatClampNeg) := inb_of Sz1 ⟨by decide, by decide⟩
  have hat2 : cl1.slots[((1 : Int32)).toNatClampNeg]? = some (.long x1) := Has.at Hh1 hin2 rfl
  obtain ⟨cl3, Ar3, qk3, Sz3, Nn3, Hh3, Gg3⟩ := id (A)
  have hin4 : ¬ ((0 : Int32) < 0 ∨ cl3.slots.size ≤ ((0 : Int32)).toNatClampNeg) := inb_of Sz3 ⟨by decide, by decide⟩
  have hat4 : cl3.slots[((0 : Int32)).toNatClampNeg]? = some (.long x0) := Has.at Hh3 hin4 rfl
  by_cases hc28 : x1 < x0
  · obtain ⟨cl5, Ar5, qk5, Sz5, Nn5, Hh5, Gg5⟩ := id (A)
    have hin6 : ¬ ((0 : Int32) < 0 ∨ cl5.slots.size ≤ ((0 : Int32)).toNatClampNeg) := inb_of Sz5 ⟨by decide, by decide⟩
    have hat6 : cl5.slots[((0 : Int32)).toNatClampNeg]? = some (.long x0) := Has.at Hh5 hin6 rfl
    obtain ⟨cl7, Ar7, qk7, Sz7, Nn7, Hh7, Gg7⟩ := id (A)
    have hin8 : ¬ ((0 : Int32) < 0 ∨ cl7.slots.size ≤ ((0 : Int32)).toNatClampNeg) := inb_of Sz7 ⟨by decide, by decide⟩
    have hat8 : cl7.slots[((0 : Int32)).toNatClampNeg]? = some (.long x0) := Has.at Hh7 hin8 rfl
    obtain ⟨cl9, Ar9, qk9, Sz9, Nn9, Hh9, Gg9⟩ := id (A)
    have hin10 : ¬ ((1 : Int32) < 0 ∨ cl9.slots.size ≤ ((1 : Int32)).toNatClampNeg) := inb_of Sz9 ⟨by decide, by decide⟩
    obtain ⟨T10, h10, X10, e10, W10, st10⟩ := stJ X0 hx hZ e0 Ar9 (j := (1 : Int32)) hin10  (g := (mkF m 55 #[.val (.ref a1), .val (.int (0 : Int32)), .val (.int (2 : Int32)), .val (.int (0 : Int32)), .val (.int (1 : Int32)), .val (.long x1), .second] [(.long x0), (.int (1 : Int32)), (.ref a1)])) rfl rfl (hb hby d18_55)
    have N10 := Fr.snoc X10 N0 ga
    have Z10 : n0 ≤ h10.size := by rw [W10.size]; exact Z0
    have K10 : Keep h0 h10 [a1] := (Keep.refl h0 [a1]).wr W10 (Or.inl (own_w 0 rfl))
    have V10 : Arv Z h10 a1 k .long (2 : Int32) [(.long x0), (.long x0)] (.long (0 : Int64)) := Arv.set Ar9 qk9 Sz9 Nn9 Hh9 Gg9 rfl W10 1 rfl (Nat.le_of_ble_eq_true rfl)
    obtain ⟨cl11, Ar11, qk11, Sz11, Nn11, Hh11, Gg11⟩ := id (V10)
    have hin12 : ¬ ((0 : Int32) < 0 ∨ cl11.slots.size ≤ ((0 : Int32)).toNatClampNeg) := inb_of Sz11 ⟨by decide, by decide⟩
    obtain ⟨T12, h12, X12, e12, W12, st12⟩ := stJ X10 hx hZ e10 Ar11 (j := (0 : Int32)) hin12  (g := (mkF m 65 #[.val (.ref a1), .val (.int (0 : Int32)), .val (.int (2 : Int32)), .val (.int (-1 : Int32)), .val (.int (1 : Int32)), .val (.long x1), .second] [(.long x1), (.int (0 : Int32)), (.ref a1)])) rfl rfl (hb hby d18_65)
    have N12 := Fr.snoc X12 N10 ga
    have Z12 : n0 ≤ h12.size := by rw [W12.size]; exact Z10
    have K12 : Keep h0 h12 [a1] := K10.wr W12 (Or.inl (own_w 0 rfl))
    have V12 : Arv Z h12 a1 k .long (2 : Int32) [(.long x1), (.long x0)] (.long (0 : Int64)) := Arv.set Ar11 qk11 Sz11 Nn11 Hh11 Gg11 rfl W12 0 rfl (Nat.le_of_ble_eq_true rfl)
    obtain ⟨fs, hr, hrun, hended, hW, hsame⟩ := X12.leave (v := none) (fun _ => rfl) (BodyLoose.notSynchronized Bd)
    refine ⟨_, _, pre0 _ ?_, hrun, hended, _, _, rfl, ?_, ⟨_, rfl⟩, hW, hsame.mono (by decide) (by decide)⟩
    · show Steps p.tables e below (s₁.setTop (mkF m 0 #[.val (.ref a1), .val (.int (0 : Int32)), .val (.int (2 : Int32)), .unset, .unset, .unset, .unset] [])) _
      refine XS.iloadN X0.here hx rfl (hb hby d18_0) rfl ?_
      refine XS.istore X0.here hx rfl (hb hby d18_1) rfl (l' := #[.val (.ref a1), .val (.int (0 : Int32)), .val (.int (2 : Int32)), .unset, .val (.int (0 : Int32)), .unset, .unset]) rfl ?_
      refine XS.iinc X0.here hx rfl (hb hby d18_3) rfl (l' := #[.val (.ref a1), .val (.int (0 : Int32)), .val (.int (2 : Int32)), .unset, .val (.int (1 : Int32)), .unset, .unset]) rfl ?_
      refine XS.iload X0.here hx rfl (hb hby d18_6) rfl ?_
      refine XS.iloadN X0.here hx rfl (hb hby d18_8) rfl ?_
      refine XS.icmpNo X0.here hx rfl (hb hby d18_9) rfl (tlt (by decide)).2.1 ?_
      refine XS.aloadN X0.here hx rfl (hb hby d18_12) rfl rfl ?_
      refine XS.iload X0.here hx rfl (hb hby d18_13) rfl ?_
      refine XS.dup X0.here hx rfl (hb hby d18_15) rfl rfl ?_
      refine XS.istoreN X0.here hx rfl (hb hby d18_16) rfl (l' := #[.val (.ref a1), .val (.int (0 : Int32)), .val (.int (2 : Int32)), .val (.int (1 : Int32)), .val (.int (1 : Int32)), .unset, .unset]) rfl ?_
      refine X0.laload hx (j := (1 : Int32)) (v := (.long x1)) (by rw [e0]; exact Ar1.1) (State.isArrayOf_alike hZ.alike Ar1.2.1) Ar1.2.2 hin2 hat2 (g := (mkF m 17 #[.val (.ref a1), .val (.int (0 : Int32)), .val (.int (2 : Int32)), .val (.int (1 : Int32)), .val (.int (1 : Int32)), .unset, .unset] [(.int (1 : Int32)), (.ref a1)])) rfl rfl (hb hby d18_17) _ ?_
      refine XS.lstore X0.here hx rfl (hb hby d18_18) rfl (l' := #[.val (.ref a1), .val (.int (0 : Int32)), .val (.int (2 : Int32)), .val (.int (1 : Int32)), .val (.int (1 : Int32)), .val (.long x1), .second]) rfl ?_
      refine XS.lload X0.here hx rfl (hb hby d18_20) rfl ?_
      refine XS.aloadN X0.here hx rfl (hb hby d18_22) rfl rfl ?_
      refine XS.iloadN X0.here hx rfl (hb hby d18_23) rfl ?_
      refine XS.iconst X0.here hx rfl (hb hby d18_24) ?_
      refine XS.isub X0.here hx rfl (hb hby d18_25) rfl ?_
      refine X0.laload hx (j := (0 : Int32)) (v := (.long x0)) (by rw [e0]; exact Ar3.1) (State.isArrayOf_alike hZ.alike Ar3.2.1) Ar3.2.2 hin4 hat4 (g := (mkF m 26 #[.val (.ref a1), .val (.int (0 : Int32)), .val (.int (2 : Int32)), .val (.int (1 : Int32)), .val (.int (1 : Int32)), .val (.long x1), .second] [(.int (0 : Int32)), (.ref a1), (.long x1)])) rfl rfl (hb hby d18_26) _ ?_
      refine XS.lcmp X0.here hx rfl (hb hby d18_27) rfl ?_
      refine XS.ifNo X0.here hx rfl (hb hby d18_28) rfl ((if0 _ _).trans (tlt (own_lclt hc28)).2.1) ?_
      refine XS.iinc X0.here hx rfl (hb hby d18_31) rfl (l' := #[.val (.ref a1), .val (.int (0 : Int32)), .val (.int (2 : Int32)), .val (.int (0 : Int32)), .val (.int (1 : Int32)), .val (.long x1), .second]) rfl ?_
      refine XS.iloadN X0.here hx rfl (hb hby d18_34) rfl ?_
      refine XS.iloadN X0.here hx rfl (hb hby d18_35) rfl ?_
      refine XS.icmpNo X0.here hx rfl (hb hby d18_36) rfl (flt (by decide)).1 ?_
      refine XS.lload X0.here hx rfl (hb hby d18_39) rfl ?_
      refine XS.aloadN X0.here hx rfl (hb hby d18_41) rfl rfl ?_
      refine XS.iloadN X0.here hx rfl (hb hby d18_42) rfl ?_
      refine X0.laload hx (j := (0 : Int32)) (v := (.long x0)) (by rw [e0]; exact Ar5.1) (State.isArrayOf_alike hZ.alike Ar5.2.1) Ar5.2.2 hin6 hat6 (g := (mkF m 43 #[.val (.ref a1), .val (.int (0 : Int32)), .val (.int (2 : Int32)), .val (.int (0 : Int32)), .val (.int (1 : Int32)), .val (.long x1), .second] [(.int (0 : Int32)), (.ref a1), (.long x1)])) rfl rfl (hb hby d18_43) _ ?_
      refine XS.lcmp X0.here hx rfl (hb hby d18_44) rfl ?_
      refine XS.ifNo X0.here hx rfl (hb hby d18_45) rfl ((if0 _ _).trans (tlt (own_lclt hc28)).2.1) ?_
      refine XS.aloadN X0.here hx rfl (hb hby d18_48) rfl rfl ?_
      refine XS.iloadN X0.here hx rfl (hb hby d18_49) rfl ?_
      refine XS.iconst X0.here hx rfl (hb hby d18_50) ?_
      refine XS.iadd X0.here hx rfl (hb hby d18_51) rfl ?_
      refine XS.aloadN X0.here hx rfl (hb hby d18_52) rfl rfl ?_
      refine XS.iloadN X0.here hx rfl (hb hby d18_53) rfl ?_
      refine X0.laload hx (j := (0 : Int32)) (v := (.long x0)) (by rw [e0]; exact Ar7.1) (State.isArrayOf_alike hZ.alike Ar7.2.1) Ar7.2.2 hin8 hat8 (g := (mkF m 54 #[.val (.ref a1), .val (.int (0 : Int32)), .val (.int (2 : Int32)), .val (.int (0 : Int32)), .val (.int (1 : Int32)), .val (.long x1), .second] [(.int (0 : Int32)), (.ref a1), (.int (1 : Int32)), (.ref a1)])) rfl rfl (hb hby d18_54) _ ?_
      refine st10 _ ?_
      refine XS.goto X10.here hx rfl (pc0 := 56) (pc' := 31) rfl (hb hby d18_56) (by decide) (by decide) ?_
      refine XS.iinc X10.here hx rfl (hb hby d18_31) rfl (l' := #[.val (.ref a1), .val (.int (0 : Int32)), .val (.int (2 : Int32)), .val (.int (-1 : Int32)), .val (.int (1 : Int32)), .val (.long x1), .second]) rfl ?_
      show Steps p.tables e below (T10.setTop (mkF m 34 #[.val (.ref a1), .val (.int (0 : Int32)), .val (.int (2 : Int32)), .val (.int (-1 : Int32)), .val (.int (1 : Int32)), .val (.long x1), .second] [])) _
      refine XS.iloadN X10.here hx rfl (hb hby d18_34) rfl ?_
      refine XS.iloadN X10.here hx rfl (hb hby d18_35) rfl ?_
      refine XS.icmpYes X10.here hx rfl (pc0 := 36) (pc' := 59) rfl (hb hby d18_36) rfl (tlt (by decide)).1 (by decide) (by decide) ?_
      refine XS.aloadN X10.here hx rfl (hb hby d18_59) rfl rfl ?_
      refine XS.iloadN X10.here hx rfl (hb hby d18_60) rfl ?_
      refine XS.iconst X10.here hx rfl (hb hby d18_61) ?_
      refine XS.iadd X10.here hx rfl (hb hby d18_62) rfl ?_
      refine XS.lload X10.here hx rfl (hb hby d18_63) rfl ?_
      refine st12 _ ?_
      refine XS.goto X12.here hx rfl (pc0 := 66) (pc' := 3) rfl (hb hby d18_66) (by decide) (by decide) ?_
      refine XS.iinc X12.here hx rfl (hb hby d18_3) rfl (l' := #[.val (.ref a1), .val (.int (0 : Int32)), .val (.int (2 : Int32)), .val (.int (-1 : Int32)), .val (.int (2 : Int32)), .val (.long x1), .second]) rfl ?_
      refine XS.iload X12.here hx rfl (hb hby d18_6) rfl ?_
      refine XS.iloadN X12.here hx rfl (hb hby d18_8) rfl ?_
      refine XS.icmpYes X12.here hx rfl (pc0 := 9) (pc' := 69) rfl (hb hby d18_9) rfl (flt (by decide)).2.1 (by decide) (by decide) ?_
      show Steps p.tables e below (T12.setTop (mkF m 69 #[.val (.ref a1), .val (.int (0 : Int32)), .val (.int (2 : Int32)), .val (.int (-1 : Int32)), .val (.int (2 : Int32)), .val (.long x1), .second] [])) _
      exact X12.returnOut hx Bd.returns (hb hby d18_69) hr
    · show Qrmi2 Z a1 k x0 x1 h0 n0 _ T12.heap _
      rw [e12]
      exact ⟨rfl, N12, K12, x1, x0, V12, (own_ltN hc28), (Or.inr ⟨rfl, rfl⟩)⟩
  · obtain ⟨fs, hr, hrun, hended, hW, hsame⟩ := X0.leave (v := none) (fun _ => rfl) (BodyLoose.notSynchronized Bd)
    refine ⟨_, _, pre0 _ ?_, hrun, hended, _, _, rfl, ?_, ⟨_, rfl⟩, hW, hsame.mono (by decide) (by decide)⟩
    · show Steps p.tables e below (s₁.setTop (mkF m 0 #[.val (.ref a1), .val (.int (0 : Int32)), .val (.int (2 : Int32)), .unset, .unset, .unset, .unset] [])) _
      refine XS.iloadN X0.here hx rfl (hb hby d18_0) rfl ?_
      refine XS.istore X0.here hx rfl (hb hby d18_1) rfl (l' := #[.val (.ref a1), .val (.int (0 : Int32)), .val (.int (2 : Int32)), .unset, .val (.int (0 : Int32)), .unset, .unset]) rfl ?_
      refine XS.iinc X0.here hx rfl (hb hby d18_3) rfl (l' := #[.val (.ref a1), .val (.int (0 : Int32)), .val (.int (2 : Int32)), .unset, .val (.int (1 : Int32)), .unset, .unset]) rfl ?_
      refine XS.iload X0.here hx rfl (hb hby d18_6) rfl ?_
      refine XS.iloadN X0.here hx rfl (hb hby d18_8) rfl ?_
      refine XS.icmpNo X0.here hx rfl (hb hby d18_9) rfl (tlt (by decide)).2.1 ?_
      refine XS.aloadN X0.here hx rfl (hb hby d18_12) rfl rfl ?_
      refine XS.iload X0.here hx rfl (hb hby d18_13) rfl ?_
      refine XS.dup X0.here hx rfl (hb hby d18_15) rfl rfl ?_
      refine XS.istoreN X0.here hx rfl (hb hby d18_16) rfl (l' := #[.val (.ref a1), .val (.int (0 : Int32)), .val (.int (2 : Int32)), .val (.int (1 : Int32)), .val (.int (1 : Int32)), .unset, .unset]) rfl ?_
      refine X0.laload hx (j := (1 : Int32)) (v := (.long x1)) (by rw [e0]; exact Ar1.1) (State.isArrayOf_alike hZ.alike Ar1.2.1) Ar1.2.2 hin2 hat2 (g := (mkF m 17 #[.val (.ref a1), .val (.int (0 : Int32)), .val (.int (2 : Int32)), .val (.int (1 : Int32)), .val (.int (1 : Int32)), .unset, .unset] [(.int (1 : Int32)), (.ref a1)])) rfl rfl (hb hby d18_17) _ ?_
      refine XS.lstore X0.here hx rfl (hb hby d18_18) rfl (l' := #[.val (.ref a1), .val (.int (0 : Int32)), .val (.int (2 : Int32)), .val (.int (1 : Int32)), .val (.int (1 : Int32)), .val (.long x1), .second]) rfl ?_
      refine XS.lload X0.here hx rfl (hb hby d18_20) rfl ?_
      refine XS.aloadN X0.here hx rfl (hb hby d18_22) rfl rfl ?_
      refine XS.iloadN X0.here hx rfl (hb hby d18_23) rfl ?_
      refine XS.iconst X0.here hx rfl (hb hby d18_24) ?_
      refine XS.isub X0.here hx rfl (hb hby d18_25) rfl ?_
      refine X0.laload hx (j := (0 : Int32)) (v := (.long x0)) (by rw [e0]; exact Ar3.1) (State.isArrayOf_alike hZ.alike Ar3.2.1) Ar3.2.2 hin4 hat4 (g := (mkF m 26 #[.val (.ref a1), .val (.int (0 : Int32)), .val (.int (2 : Int32)), .val (.int (1 : Int32)), .val (.int (1 : Int32)), .val (.long x1), .second] [(.int (0 : Int32)), (.ref a1), (.long x1)])) rfl rfl (hb hby d18_26) _ ?_
      refine XS.lcmp X0.here hx rfl (hb hby d18_27) rfl ?_
      refine XS.ifYes X0.here hx rfl (pc0 := 28) (pc' := 66) rfl (hb hby d18_28) rfl ((if0 _ _).trans (flt (own_lcnlt hc28)).2.1) (by decide) (by decide) ?_
      refine XS.goto X0.here hx rfl (pc0 := 66) (pc' := 3) rfl (hb hby d18_66) (by decide) (by decide) ?_
      refine XS.iinc X0.here hx rfl (hb hby d18_3) rfl (l' := #[.val (.ref a1), .val (.int (0 : Int32)), .val (.int (2 : Int32)), .val (.int (1 : Int32)), .val (.int (2 : Int32)), .val (.long x1), .second]) rfl ?_
      refine XS.iload X0.here hx rfl (hb hby d18_6) rfl ?_
      refine XS.iloadN X0.here hx rfl (hb hby d18_8) rfl ?_
      refine XS.icmpYes X0.here hx rfl (pc0 := 9) (pc' := 69) rfl (hb hby d18_9) rfl (flt (by decide)).2.1 (by decide) (by decide) ?_
      show Steps p.tables e below (s₁.setTop (mkF m 69 #[.val (.ref a1), .val (.int (0 : Int32)), .val (.int (2 : Int32)), .val (.int (1 : Int32)), .val (.int (2 : Int32)), .val (.long x1), .second] [])) _
      exact X0.returnOut hx Bd.returns (hb hby d18_69) hr
    · show Qrmi2 Z a1 k x0 x1 h0 n0 _ s₁.heap _
      rw [e0]
      exact ⟨rfl, N0, (Keep.refl h0 [a1]), x0, x1, A, hc28, (Or.inl ⟨rfl, rfl⟩)⟩
theorem ef_rms2 (m : MethodId) (a2 : Addr) : entryFrame m #[.null, (.ref a2), (.int (0 : Int32)), (.int (0 : Int32)), (.int (2 : Int32))] 25 = mkF m 0 #[.val .null, .val (.ref a2), .val (.int (0 : Int32)), .val (.int (0 : Int32)), .val (.int (2 : Int32)), .unset, .unset, .unset, .unset, .unset, .unset, .unset, .unset, .unset, .unset, .unset, .unset, .unset, .unset, .unset, .unset, .unset, .unset, .unset, .unset] [] := by first | (simp [entryFrame, mkF, argsToLocals, Value.category]; done) | rfl
def Qrms2 (Z : State) (a2 : Addr) (k : ClassId) (x0 : Int64) (x1 : Int64) (h0 : Heap) (n0 : Nat) (v : Option Value) (h : Heap) (L : List Loc) : Prop := v = none ∧ Fr n0 L ∧ Keep h0 h [a2] ∧ ∃ y0 y1 : Int64, Arv Z h a2 k .long (2 : Int32) [.long y0, .long y1] (.long (0 : Int64)) ∧ (¬ y1 < y0) ∧ ((y0 = x0 ∧ y1 = x1) ∨ (y0 = x1 ∧ y1 = x0))
set_option maxRecDepth 65536 in
set_option maxHeartbeats 40000000 in
theorem rms2 (l : Launch) (Z : State) (a0 : Array Value) (hw : ∀ d ∈ tables_1, d.before a0 Z = true) (ws : List Jvm.Cond) (a2 : Addr) (k : ClassId) (x0 : Int64) (x1 : Int64) (h0 : Heap) (n0 : Nat) (Z0 : n0 ≤ h0.size) (A : Arv Z h0 a2 k .long (2 : Int32) [.long x0, .long x1] (.long (0 : Int64))) (ga : n0 ≤ a2) :
    MetFree l (⟨"java/util/DualPivotQuicksort", "sort", "(Ljava/util/DualPivotQuicksort$Sorter;[JIII)V"⟩ : MethodName) (head1 (Jvm.Cond.code (⟨"java/util/DualPivotQuicksort", "sort", "(Ljava/util/DualPivotQuicksort$Sorter;[JIII)V"⟩ : MethodName) jdk_2529_method_13_code 25 none :: ws) ({ frames := 1, cells := 0, slots := 0, locals := 18 } : Room)) (fun a U => a = #[.null, (.ref a2), (.int (0 : Int32)), (.int (0 : Int32)), (.int (2 : Int32))] ∧ Z.Warmed39 U.vm ∧ U.heap = h0) (fun _ _ _ _ _ => True) (fun _ U o U' => ∃ v L, o = .returned v ∧ Qrms2 Z a2 k x0 x1 h0 n0 v U'.heap L ∧ FrameEnd U o U' L ({ frames := 1, cells := 0, slots := 0, locals := 18 } : Room).cells ({ frames := 1, cells := 0, slots := 0, locals := 18 } : Room).slots) := by
  refine MetFree.of_bodySF (plainFor_of_name pn_17) hisR ?_
  intro p e s m args below meth c s₁ Bd hml0 hP hK
  obtain ⟨rfl, hZ, hh⟩ := hP
  have hx := Bd.exec
  have hby := Bd.bytes
  have hml : c.maxLocals = 25 := hml0
  have hown : s.vm.findClass "java/util/DualPivotQuicksort" = some m.cls := findClass_of_methodNamed Bd.named
  have hnm := (name_of_methodNamed Bd.named Bd.method).1
  have X0 : Stand p l e ({ frames := 1, cells := 0, slots := 0, locals := 18 } : Room) s m #[.null, (.ref a2), (.int (0 : Int32)), (.int (0 : Int32)), (.int (2 : Int32))] below meth c s₁ [] 0 0 := Stand.of_body Bd
  have e0 : s₁.heap = h0 := by rw [← hh, Bd.state]; rfl
  have N0 := Fr.nil n0
  have pre0 : ∀ t, Steps p.tables e below (s₁.setTop (mkF m 0 #[.val .null, .val (.ref a2), .val (.int (0 : Int32)), .val (.int (0 : Int32)), .val (.int (2 : Int32)), .unset, .unset, .unset, .unset, .unset, .unset, .unset, .unset, .unset, .unset, .unset, .unset, .unset, .unset, .unset, .unset, .unset, .unset, .unset, .unset] [])) t → Steps p.tables e below (s₁.setTop (entryFrame m #[.null, (.ref a2), (.int (0 : Int32)), (.int (0 : Int32)), (.int (2 : Int32))] 25)) t := fun t k => castTop (ef_rms2 m a2) k
  obtain ⟨_, _, ⟨T1, Lq1, kq1, nq1⟩, -, X1, ⟨Lc1, hQ1, lq1, yq1, zq1⟩, st1⟩ := Jvm.LawKit.callS X0 hx (y := (⟨"java/util/DualPivotQuicksort", "insertionSort", "([JII)V"⟩ : MethodName)) hown (mvT hZ (hw _ (own_w 82 rfl))) (mvT hZ (hw _ (own_w 83 rfl))) (mvT hZ (hw _ (own_w 77 rfl))) (mvT hZ (hw _ (own_w 84 rfl))) (by decide) (backOf (W := 0) (rmi2 l Z a0 hw [] a2 k x0 x1 h0 n0 Z0 A ga) hZ (hw _ (own_w 84 rfl)) (hw _ (own_w 77 rfl)) (by decide) (by decide)) (g := (mkF m 57 #[.val .null, .val (.ref a2), .val (.int (0 : Int32)), .val (.int (0 : Int32)), .val (.int (2 : Int32)), .val (.int (1 : Int32)), .val (.int (2 : Int32)), .unset, .unset, .unset, .unset, .unset, .unset, .unset, .unset, .unset, .unset, .unset, .unset, .unset, .unset, .unset, .unset, .unset, .unset] [(.int (2 : Int32)), (.int (0 : Int32)), (.ref a2)])) rfl (by rw [hml]; rfl) (argsL := [(.ref a2), (.int (0 : Int32)), (.int (2 : Int32))]) (rest := []) (lenOf pd_5 rfl) rfl (by show 2 * 0 + _ ≤ _; exact Nat.le_of_eq rfl) (hb hby d17_57) (fun _ _ => ⟨rfl, e0, (by decide : 0 + 0 ≤ _), (by decide : 0 + 0 ≤ _)⟩)
  dsimp only [Pt.U, Pt.locs, Pt.cells, Pt.slots] at X1 lq1 yq1 zq1 st1 hQ1
  subst lq1 yq1 zq1
  obtain ⟨rfl, N1q, KC1, u1⟩ := hQ1
  have N1 := Fr.app N0 N1q
  have Z1 : n0 ≤ T1.heap.size := Nat.le_trans Z0 KC1.1
  have K1 : Keep h0 T1.heap [a2] := (Keep.refl h0 [a2]).trans KC1 (allS (Or.inl (own_w 0 rfl)) all0)
  obtain ⟨y1_0, y1_1, AV1, so1, pm1⟩ := id u1
  obtain ⟨fs, hr, hrun, hended, hW, hsame⟩ := X1.leave (v := none) (fun _ => rfl) (BodyLoose.notSynchronized Bd)
  refine ⟨_, _, pre0 _ ?_, hrun, hended, _, _, rfl, ?_, ⟨_, rfl⟩, hW, hsame.mono (by decide) (by decide)⟩
  · show Steps p.tables e below (s₁.setTop (mkF m 0 #[.val .null, .val (.ref a2), .val (.int (0 : Int32)), .val (.int (0 : Int32)), .val (.int (2 : Int32)), .unset, .unset, .unset, .unset, .unset, .unset, .unset, .unset, .unset, .unset, .unset, .unset, .unset, .unset, .unset, .unset, .unset, .unset, .unset, .unset] [])) _
    refine XS.iload X0.here hx rfl (hb hby d17_0) rfl ?_
    refine XS.iconst X0.here hx rfl (hb hby d17_2) ?_
    refine XS.isub X0.here hx rfl (hb hby d17_3) rfl ?_
    refine XS.istore X0.here hx rfl (hb hby d17_4) rfl (l' := #[.val .null, .val (.ref a2), .val (.int (0 : Int32)), .val (.int (0 : Int32)), .val (.int (2 : Int32)), .val (.int (1 : Int32)), .unset, .unset, .unset, .unset, .unset, .unset, .unset, .unset, .unset, .unset, .unset, .unset, .unset, .unset, .unset, .unset, .unset, .unset, .unset]) rfl ?_
    refine XS.iload X0.here hx rfl (hb hby d17_6) rfl ?_
    refine XS.iloadN X0.here hx rfl (hb hby d17_8) rfl ?_
    refine XS.isub X0.here hx rfl (hb hby d17_9) rfl ?_
    refine XS.istore X0.here hx rfl (hb hby d17_10) rfl (l' := #[.val .null, .val (.ref a2), .val (.int (0 : Int32)), .val (.int (0 : Int32)), .val (.int (2 : Int32)), .val (.int (1 : Int32)), .val (.int (2 : Int32)), .unset, .unset, .unset, .unset, .unset, .unset, .unset, .unset, .unset, .unset, .unset, .unset, .unset, .unset, .unset, .unset, .unset, .unset]) rfl ?_
    refine XS.iload X0.here hx rfl (hb hby d17_12) rfl ?_
    refine XS.bipush X0.here hx rfl (hb hby d17_14) ?_
    refine XS.iloadN X0.here hx rfl (hb hby d17_16) rfl ?_
    refine XS.iadd X0.here hx rfl (hb hby d17_17) rfl ?_
    refine XS.icmpNo X0.here hx rfl (hb hby d17_18) rfl (tlt (by decide)).2.1 ?_
    refine XS.iloadN X0.here hx rfl (hb hby d17_21) rfl ?_
    refine XS.iconst X0.here hx rfl (hb hby d17_22) ?_
    refine XS.iand X0.here hx rfl (hb hby d17_23) rfl ?_
    refine XS.ifYes X0.here hx rfl (pc0 := 24) (pc' := 46) rfl (hb hby d17_24) rfl ((if0 _ _).trans (flt (by decide)).2.2.2) (by decide) (by decide) ?_
    refine XS.iload X0.here hx rfl (hb hby d17_46) rfl ?_
    refine XS.bipush X0.here hx rfl (hb hby d17_48) ?_
    refine XS.icmpNo X0.here hx rfl (hb hby d17_50) rfl (tlt (by decide)).2.1 ?_
    refine XS.aloadN X0.here hx rfl (hb hby d17_53) rfl rfl ?_
    refine XS.iloadN X0.here hx rfl (hb hby d17_54) rfl ?_
    refine XS.iload X0.here hx rfl (hb hby d17_55) rfl ?_
    refine st1 _ ?_
    show Steps p.tables e below (T1.setTop (mkF m 60 #[.val .null, .val (.ref a2), .val (.int (0 : Int32)), .val (.int (0 : Int32)), .val (.int (2 : Int32)), .val (.int (1 : Int32)), .val (.int (2 : Int32)), .unset, .unset, .unset, .unset, .unset, .unset, .unset, .unset, .unset, .unset, .unset, .unset, .unset, .unset, .unset, .unset, .unset, .unset] [])) _
    exact X1.returnOut hx Bd.returns (hb hby d17_60) hr
  · show Qrms2 Z a2 k x0 x1 h0 n0 _ T1.heap _
    exact ⟨rfl, N1, K1, u1⟩
theorem ef_rmd2 (m : MethodId) (a1 : Addr) : entryFrame m #[(.ref a1), (.int (0 : Int32)), (.int (0 : Int32)), (.int (2 : Int32))] 7 = mkF m 0 #[.val (.ref a1), .val (.int (0 : Int32)), .val (.int (0 : Int32)), .val (.int (2 : Int32)), .unset, .unset, .unset] [] := by first | (simp [entryFrame, mkF, argsToLocals, Value.category]; done) | rfl
def Qrmd2 (Z : State) (a1 : Addr) (k : ClassId) (x0 : Int64) (x1 : Int64) (h0 : Heap) (n0 : Nat) (v : Option Value) (h : Heap) (L : List Loc) : Prop := v = none ∧ Fr n0 L ∧ Keep h0 h [a1] ∧ ∃ y0 y1 : Int64, Arv Z h a1 k .long (2 : Int32) [.long y0, .long y1] (.long (0 : Int64)) ∧ (¬ y1 < y0) ∧ ((y0 = x0 ∧ y1 = x1) ∨ (y0 = x1 ∧ y1 = x0))
set_option maxRecDepth 65536 in
set_option maxHeartbeats 40000000 in
theorem rmd2 (l : Launch) (Z : State) (a0 : Array Value) (hw : ∀ d ∈ tables_1, d.before a0 Z = true) (ws : List Jvm.Cond) (a1 : Addr) (k : ClassId) (x0 : Int64) (x1 : Int64) (h0 : Heap) (n0 : Nat) (Z0 : n0 ≤ h0.size) (A : Arv Z h0 a1 k .long (2 : Int32) [.long x0, .long x1] (.long (0 : Int64))) (ga : n0 ≤ a1) :
    MetFree l (⟨"java/util/DualPivotQuicksort", "sort", "([JIII)V"⟩ : MethodName) (head1 (Jvm.Cond.code (⟨"java/util/DualPivotQuicksort", "sort", "([JIII)V"⟩ : MethodName) jdk_2529_method_12_code 7 none :: ws) ({ frames := 2, cells := 0, slots := 0, locals := 54 } : Room)) (fun a U => a = #[(.ref a1), (.int (0 : Int32)), (.int (0 : Int32)), (.int (2 : Int32))] ∧ Z.Warmed39 U.vm ∧ U.heap = h0) (fun _ _ _ _ _ => True) (fun _ U o U' => ∃ v L, o = .returned v ∧ Qrmd2 Z a1 k x0 x1 h0 n0 v U'.heap L ∧ FrameEnd U o U' L ({ frames := 2, cells := 0, slots := 0, locals := 54 } : Room).cells ({ frames := 2, cells := 0, slots := 0, locals := 54 } : Room).slots) := by
  refine MetFree.of_bodySF (plainFor_of_name pn_16) hisR ?_
  intro p e s m args below meth c s₁ Bd hml0 hP hK
  obtain ⟨rfl, hZ, hh⟩ := hP
  have hx := Bd.exec
  have hby := Bd.bytes
  have hml : c.maxLocals = 7 := hml0
  have hown : s.vm.findClass "java/util/DualPivotQuicksort" = some m.cls := findClass_of_methodNamed Bd.named
  have hnm := (name_of_methodNamed Bd.named Bd.method).1
  have X0 : Stand p l e ({ frames := 2, cells := 0, slots := 0, locals := 54 } : Room) s m #[(.ref a1), (.int (0 : Int32)), (.int (0 : Int32)), (.int (2 : Int32))] below meth c s₁ [] 0 0 := Stand.of_body Bd
  have e0 : s₁.heap = h0 := by rw [← hh, Bd.state]; rfl
  have N0 := Fr.nil n0
  have pre0 : ∀ t, Steps p.tables e below (s₁.setTop (mkF m 0 #[.val (.ref a1), .val (.int (0 : Int32)), .val (.int (0 : Int32)), .val (.int (2 : Int32)), .unset, .unset, .unset] [])) t → Steps p.tables e below (s₁.setTop (entryFrame m #[(.ref a1), (.int (0 : Int32)), (.int (0 : Int32)), (.int (2 : Int32))] 7)) t := fun t k => castTop (ef_rmd2 m a1) k
  obtain ⟨_, _, ⟨T1, Lq1, kq1, nq1⟩, -, X1, ⟨Lc1, hQ1, lq1, yq1, zq1⟩, st1⟩ := Jvm.LawKit.callS X0 hx (y := (⟨"java/util/DualPivotQuicksort", "sort", "(Ljava/util/DualPivotQuicksort$Sorter;[JIII)V"⟩ : MethodName)) hown (mvT hZ (hw _ (own_w 79 rfl))) (mvT hZ (hw _ (own_w 80 rfl))) (mvT hZ (hw _ (own_w 77 rfl))) (mvT hZ (hw _ (own_w 81 rfl))) (by decide) (backOf (W := 0) (rms2 l Z a0 hw [] a1 k x0 x1 h0 n0 Z0 A ga) hZ (hw _ (own_w 81 rfl)) (hw _ (own_w 77 rfl)) (by decide) (by decide)) (g := (mkF m 73 #[.val (.ref a1), .val (.int (0 : Int32)), .val (.int (0 : Int32)), .val (.int (2 : Int32)), .val (.int (2 : Int32)), .unset, .unset] [(.int (2 : Int32)), (.int (0 : Int32)), (.int (0 : Int32)), (.ref a1), .null])) rfl (by rw [hml]; rfl) (argsL := [.null, (.ref a1), (.int (0 : Int32)), (.int (0 : Int32)), (.int (2 : Int32))]) (rest := []) (lenOf pd_6 rfl) rfl (by show 2 * 0 + _ ≤ _; exact Nat.le_of_eq rfl) (hb hby d16_73) (fun _ _ => ⟨rfl, e0, (by decide : 0 + 0 ≤ _), (by decide : 0 + 0 ≤ _)⟩)
  dsimp only [Pt.U, Pt.locs, Pt.cells, Pt.slots] at X1 lq1 yq1 zq1 st1 hQ1
  subst lq1 yq1 zq1
  obtain ⟨rfl, N1q, KC1, u1⟩ := hQ1
  have N1 := Fr.app N0 N1q
  have Z1 : n0 ≤ T1.heap.size := Nat.le_trans Z0 KC1.1
  have K1 : Keep h0 T1.heap [a1] := (Keep.refl h0 [a1]).trans KC1 (allS (Or.inl (own_w 0 rfl)) all0)
  obtain ⟨y1_0, y1_1, AV1, so1, pm1⟩ := id u1
  obtain ⟨fs, hr, hrun, hended, hW, hsame⟩ := X1.leave (v := none) (fun _ => rfl) (BodyLoose.notSynchronized Bd)
  refine ⟨_, _, pre0 _ ?_, hrun, hended, _, _, rfl, ?_, ⟨_, rfl⟩, hW, hsame.mono (by decide) (by decide)⟩
  · show Steps p.tables e below (s₁.setTop (mkF m 0 #[.val (.ref a1), .val (.int (0 : Int32)), .val (.int (0 : Int32)), .val (.int (2 : Int32)), .unset, .unset, .unset] [])) _
    refine XS.iloadN X0.here hx rfl (hb hby d16_0) rfl ?_
    refine XS.iloadN X0.here hx rfl (hb hby d16_1) rfl ?_
    refine XS.isub X0.here hx rfl (hb hby d16_2) rfl ?_
    refine XS.istore X0.here hx rfl (hb hby d16_3) rfl (l' := #[.val (.ref a1), .val (.int (0 : Int32)), .val (.int (0 : Int32)), .val (.int (2 : Int32)), .val (.int (2 : Int32)), .unset, .unset]) rfl ?_
    refine XS.iloadN X0.here hx rfl (hb hby d16_5) rfl ?_
    refine XS.iconst X0.here hx rfl (hb hby d16_6) ?_
    refine XS.icmpYes X0.here hx rfl (pc0 := 7) (pc' := 68) rfl (hb hby d16_7) rfl (flt (by decide)).2.2.2 (by decide) (by decide) ?_
    refine XS.aconstNull X0.here hx rfl (hb hby d16_68) ?_
    refine XS.aloadN X0.here hx rfl (hb hby d16_69) rfl rfl ?_
    refine XS.iconst X0.here hx rfl (hb hby d16_70) ?_
    refine XS.iloadN X0.here hx rfl (hb hby d16_71) rfl ?_
    refine XS.iloadN X0.here hx rfl (hb hby d16_72) rfl ?_
    refine st1 _ ?_
    show Steps p.tables e below (T1.setTop (mkF m 76 #[.val (.ref a1), .val (.int (0 : Int32)), .val (.int (0 : Int32)), .val (.int (2 : Int32)), .val (.int (2 : Int32)), .unset, .unset] [])) _
    exact X1.returnOut hx Bd.returns (hb hby d16_76) hr
  · show Qrmd2 Z a1 k x0 x1 h0 n0 _ T1.heap _
    exact ⟨rfl, N1, K1, u1⟩
theorem ef_rma2 (m : MethodId) (a1 : Addr) : entryFrame m #[(.ref a1)] 1 = mkF m 0 #[.val (.ref a1)] [] := by first | (simp [entryFrame, mkF, argsToLocals, Value.category]; done) | rfl
def Qrma2 (Z : State) (a1 : Addr) (k : ClassId) (x0 : Int64) (x1 : Int64) (h0 : Heap) (n0 : Nat) (v : Option Value) (h : Heap) (L : List Loc) : Prop := v = none ∧ Fr n0 L ∧ Keep h0 h [a1] ∧ ∃ y0 y1 : Int64, Arv Z h a1 k .long (2 : Int32) [.long y0, .long y1] (.long (0 : Int64)) ∧ (¬ y1 < y0) ∧ ((y0 = x0 ∧ y1 = x1) ∨ (y0 = x1 ∧ y1 = x0))
set_option maxRecDepth 65536 in
set_option maxHeartbeats 40000000 in
theorem rma2 (l : Launch) (Z : State) (a0 : Array Value) (hw : ∀ d ∈ tables_1, d.before a0 Z = true) (ws : List Jvm.Cond) (a1 : Addr) (k : ClassId) (x0 : Int64) (x1 : Int64) (h0 : Heap) (n0 : Nat) (Z0 : n0 ≤ h0.size) (A : Arv Z h0 a1 k .long (2 : Int32) [.long x0, .long x1] (.long (0 : Int64))) (ga : n0 ≤ a1) :
    MetFree l (⟨"java/util/Arrays", "sort", "([J)V"⟩ : MethodName) (head1 (Jvm.Cond.code (⟨"java/util/Arrays", "sort", "([J)V"⟩ : MethodName) jdk_65_method_4_code 1 none :: ws) ({ frames := 3, cells := 0, slots := 0, locals := 72 } : Room)) (fun a U => a = #[(.ref a1)] ∧ Z.Warmed39 U.vm ∧ U.heap = h0) (fun _ _ _ _ _ => True) (fun _ U o U' => ∃ v L, o = .returned v ∧ Qrma2 Z a1 k x0 x1 h0 n0 v U'.heap L ∧ FrameEnd U o U' L ({ frames := 3, cells := 0, slots := 0, locals := 72 } : Room).cells ({ frames := 3, cells := 0, slots := 0, locals := 72 } : Room).slots) := by
  refine MetFree.of_bodySF (plainFor_of_name pn_15) hisR ?_
  intro p e s m args below meth c s₁ Bd hml0 hP hK
  obtain ⟨rfl, hZ, hh⟩ := hP
  have hx := Bd.exec
  have hby := Bd.bytes
  have hml : c.maxLocals = 1 := hml0
  have hown : s.vm.findClass "java/util/Arrays" = some m.cls := findClass_of_methodNamed Bd.named
  have hnm := (name_of_methodNamed Bd.named Bd.method).1
  have X0 : Stand p l e ({ frames := 3, cells := 0, slots := 0, locals := 72 } : Room) s m #[(.ref a1)] below meth c s₁ [] 0 0 := Stand.of_body Bd
  have e0 : s₁.heap = h0 := by rw [← hh, Bd.state]; rfl
  have N0 := Fr.nil n0
  have pre0 : ∀ t, Steps p.tables e below (s₁.setTop (mkF m 0 #[.val (.ref a1)] [])) t → Steps p.tables e below (s₁.setTop (entryFrame m #[(.ref a1)] 1)) t := fun t k => castTop (ef_rma2 m a1) k
  obtain ⟨cl1, Ar1, qk1, Sz1, Nn1, Hh1, Gg1⟩ := id (A)
  obtain ⟨_, _, ⟨T2, Lq2, kq2, nq2⟩, -, X2, ⟨Lc2, hQ2, lq2, yq2, zq2⟩, st2⟩ := Jvm.LawKit.callS X0 hx (y := (⟨"java/util/DualPivotQuicksort", "sort", "([JIII)V"⟩ : MethodName)) hown (mvT hZ (hw _ (own_w 75 rfl))) (mvT hZ (hw _ (own_w 76 rfl))) (mvT hZ (hw _ (own_w 77 rfl))) (mvT hZ (hw _ (own_w 78 rfl))) (by decide) (backOf (W := 0) (rmd2 l Z a0 hw [] a1 k x0 x1 h0 n0 Z0 A ga) hZ (hw _ (own_w 78 rfl)) (hw _ (own_w 77 rfl)) (by decide) (by decide)) (g := (mkF m 5 #[.val (.ref a1)] [(.int (2 : Int32)), (.int (0 : Int32)), (.int (0 : Int32)), (.ref a1)])) rfl (by rw [hml]; rfl) (argsL := [(.ref a1), (.int (0 : Int32)), (.int (0 : Int32)), (.int (2 : Int32))]) (rest := []) (lenOf pd_7 rfl) rfl (by show 2 * 0 + _ ≤ _; exact Nat.le_of_eq rfl) (hb hby d15_5) (fun _ _ => ⟨rfl, e0, (by decide : 0 + 0 ≤ _), (by decide : 0 + 0 ≤ _)⟩)
  dsimp only [Pt.U, Pt.locs, Pt.cells, Pt.slots] at X2 lq2 yq2 zq2 st2 hQ2
  subst lq2 yq2 zq2
  obtain ⟨rfl, N2q, KC2, u2⟩ := hQ2
  have N2 := Fr.app N0 N2q
  have Z2 : n0 ≤ T2.heap.size := Nat.le_trans Z0 KC2.1
  have K2 : Keep h0 T2.heap [a1] := (Keep.refl h0 [a1]).trans KC2 (allS (Or.inl (own_w 0 rfl)) all0)
  obtain ⟨y2_0, y2_1, AV2, so2, pm2⟩ := id u2
  obtain ⟨fs, hr, hrun, hended, hW, hsame⟩ := X2.leave (v := none) (fun _ => rfl) (BodyLoose.notSynchronized Bd)
  refine ⟨_, _, pre0 _ ?_, hrun, hended, _, _, rfl, ?_, ⟨_, rfl⟩, hW, hsame.mono (by decide) (by decide)⟩
  · show Steps p.tables e below (s₁.setTop (mkF m 0 #[.val (.ref a1)] [])) _
    refine XS.aloadN X0.here hx rfl (hb hby d15_0) rfl rfl ?_
    refine XS.iconst X0.here hx rfl (hb hby d15_1) ?_
    refine XS.iconst X0.here hx rfl (hb hby d15_2) ?_
    refine XS.aloadN X0.here hx rfl (hb hby d15_3) rfl rfl ?_
    refine X0.arraylength hx (by rw [e0]; exact Ar1.1) (State.isArrayOf_alike hZ.alike Ar1.2.1) (g := (mkF m 4 #[.val (.ref a1)] [(.ref a1), (.int (0 : Int32)), (.int (0 : Int32)), (.ref a1)])) rfl rfl (hb hby d15_4) _ ?_
    rw [len_of Sz1 Nn1]
    show Steps p.tables e below (s₁.setTop (mkF m 5 #[.val (.ref a1)] [(.int (2 : Int32)), (.int (0 : Int32)), (.int (0 : Int32)), (.ref a1)])) _
    refine st2 _ ?_
    show Steps p.tables e below (T2.setTop (mkF m 8 #[.val (.ref a1)] [])) _
    exact X2.returnOut hx Bd.returns (hb hby d15_8) hr
  · show Qrma2 Z a1 k x0 x1 h0 n0 _ T2.heap _
    exact ⟨rfl, N2, K2, u2⟩
theorem ef_rmi3 (m : MethodId) (a1 : Addr) : entryFrame m #[(.ref a1), (.int (0 : Int32)), (.int (3 : Int32))] 7 = mkF m 0 #[.val (.ref a1), .val (.int (0 : Int32)), .val (.int (3 : Int32)), .unset, .unset, .unset, .unset] [] := by first | (simp [entryFrame, mkF, argsToLocals, Value.category]; done) | rfl
def Qrmi3 (Z : State) (a1 : Addr) (k : ClassId) (x0 : Int64) (x1 : Int64) (x2 : Int64) (h0 : Heap) (n0 : Nat) (v : Option Value) (h : Heap) (L : List Loc) : Prop := v = none ∧ Fr n0 L ∧ Keep h0 h [a1] ∧ ∃ y0 y1 y2 : Int64, Arv Z h a1 k .long (3 : Int32) [.long y0, .long y1, .long y2] (.long (0 : Int64)) ∧ (¬ y1 < y0 ∧ ¬ y2 < y1) ∧ ((y0 = x0 ∧ y1 = x1 ∧ y2 = x2) ∨ (y0 = x0 ∧ y1 = x2 ∧ y2 = x1) ∨ (y0 = x1 ∧ y1 = x0 ∧ y2 = x2) ∨ (y0 = x1 ∧ y1 = x2 ∧ y2 = x0) ∨ (y0 = x2 ∧ y1 = x0 ∧ y2 = x1) ∨ (y0 = x2 ∧ y1 = x1 ∧ y2 = x0))
set_option maxRecDepth 65536 in
set_option maxHeartbeats 40000000 in
theorem rmi3 (l : Launch) (Z : State) (a0 : Array Value) (hw : ∀ d ∈ tables_1, d.before a0 Z = true) (ws : List Jvm.Cond) (a1 : Addr) (k : ClassId) (x0 : Int64) (x1 : Int64) (x2 : Int64) (h0 : Heap) (n0 : Nat) (Z0 : n0 ≤ h0.size) (A : Arv Z h0 a1 k .long (3 : Int32) [.long x0, .long x1, .long x2] (.long (0 : Int64))) (ga : n0 ≤ a1) :
    MetFree l (⟨"java/util/DualPivotQuicksort", "insertionSort", "([JII)V"⟩ : MethodName) (head1 (Jvm.Cond.code (⟨"java/util/DualPivotQuicksort", "insertionSort", "([JII)V"⟩ : MethodName) jdk_2529_method_15_code 7 none :: ws) ({ frames := 0, cells := 0, slots := 0, locals := 0 } : Room)) (fun a U => a = #[(.ref a1), (.int (0 : Int32)), (.int (3 : Int32))] ∧ Z.Warmed39 U.vm ∧ U.heap = h0) (fun _ _ _ _ _ => True) (fun _ U o U' => ∃ v L, o = .returned v ∧ Qrmi3 Z a1 k x0 x1 x2 h0 n0 v U'.heap L ∧ FrameEnd U o U' L ({ frames := 0, cells := 0, slots := 0, locals := 0 } : Room).cells ({ frames := 0, cells := 0, slots := 0, locals := 0 } : Room).slots) := by
  refine MetFree.of_bodySF (plainFor_of_name pn_18) hisR ?_
  intro p e s m args below meth c s₁ Bd hml0 hP hK
  obtain ⟨rfl, hZ, hh⟩ := hP
  have hx := Bd.exec
  have hby := Bd.bytes
  have hml : c.maxLocals = 7 := hml0
  have hown : s.vm.findClass "java/util/DualPivotQuicksort" = some m.cls := findClass_of_methodNamed Bd.named
  have hnm := (name_of_methodNamed Bd.named Bd.method).1
  have X0 : Stand p l e ({ frames := 0, cells := 0, slots := 0, locals := 0 } : Room) s m #[(.ref a1), (.int (0 : Int32)), (.int (3 : Int32))] below meth c s₁ [] 0 0 := Stand.of_body Bd
  have e0 : s₁.heap = h0 := by rw [← hh, Bd.state]; rfl
  have N0 := Fr.nil n0
  have pre0 : ∀ t, Steps p.tables e below (s₁.setTop (mkF m 0 #[.val (.ref a1), .val (.int (0 : Int32)), .val (.int (3 : Int32)), .unset, .unset, .unset, .unset] [])) t → Steps p.tables e below (s₁.setTop (entryFrame m #[(.ref a1), (.int (0 : Int32)), (.int (3 : Int32))] 7)) t := fun t k => castTop (ef_rmi3 m a1) k
  obtain ⟨cl1, Ar1, qk1, Sz1, Nn1, Hh1, Gg1⟩ := id (A)
  have hin2 : ¬ ((1 : Int32) < 0 ∨ cl1.slots.size ≤ ((1 : Int32)).toNatClampNeg) := inb_of Sz1 ⟨by decide, by decide⟩
  have hat2 : cl1.slots[((1 : Int32)).toNatClampNeg]? = some (.long x1) := Has.at Hh1 hin2 rfl
  obtain ⟨cl3, Ar3, qk3, Sz3, Nn3, Hh3, Gg3⟩ := id (A)
  have hin4 : ¬ ((0 : Int32) < 0 ∨ cl3.slots.size ≤ ((0 : Int32)).toNatClampNeg) := inb_of Sz3 ⟨by decide, by decide⟩
  have hat4 : cl3.slots[((0 : Int32)).toNatClampNeg]? = some (.long x0) := Has.at Hh3 hin4 rfl
  by_cases hc28 : x1 < x0
  · obtain ⟨cl5, Ar5, qk5, Sz5, Nn5, Hh5, Gg5⟩ := id (A)
    have hin6 : ¬ ((0 : Int32) < 0 ∨ cl5.slots.size ≤ ((0 : Int32)).toNatClampNeg) := inb_of Sz5 ⟨by decide, by decide⟩
    have hat6 : cl5.slots[((0 : Int32)).toNatClampNeg]? = some (.long x0) := Has.at Hh5 hin6 rfl
    obtain ⟨cl7, Ar7, qk7, Sz7, Nn7, Hh7, Gg7⟩ := id (A)
    have hin8 : ¬ ((0 : Int32) < 0 ∨ cl7.slots.size ≤ ((0 : Int32)).toNatClampNeg) := inb_of Sz7 ⟨by decide, by decide⟩
    have hat8 : cl7.slots[((0 : Int32)).toNatClampNeg]? = some (.long x0) := Has.at Hh7 hin8 rfl
    obtain ⟨cl9, Ar9, qk9, Sz9, Nn9, Hh9, Gg9⟩ := id (A)
    have hin10 : ¬ ((1 : Int32) < 0 ∨ cl9.slots.size ≤ ((1 : Int32)).toNatClampNeg) := inb_of Sz9 ⟨by decide, by decide⟩
    obtain ⟨T10, h10, X10, e10, W10, st10⟩ := stJ X0 hx hZ e0 Ar9 (j := (1 : Int32)) hin10  (g := (mkF m 55 #[.val (.ref a1), .val (.int (0 : Int32)), .val (.int (3 : Int32)), .val (.int (0 : Int32)), .val (.int (1 : Int32)), .val (.long x1), .second] [(.long x0), (.int (1 : Int32)), (.ref a1)])) rfl rfl (hb hby d18_55)
    have N10 := Fr.snoc X10 N0 ga
    have Z10 : n0 ≤ h10.size := by rw [W10.size]; exact Z0
    have K10 : Keep h0 h10 [a1] := (Keep.refl h0 [a1]).wr W10 (Or.inl (own_w 0 rfl))
    have V10 : Arv Z h10 a1 k .long (3 : Int32) [(.long x0), (.long x0), (.long x2)] (.long (0 : Int64)) := Arv.set Ar9 qk9 Sz9 Nn9 Hh9 Gg9 rfl W10 1 rfl (Nat.le_of_ble_eq_true rfl)
    obtain ⟨cl11, Ar11, qk11, Sz11, Nn11, Hh11, Gg11⟩ := id (V10)
    have hin12 : ¬ ((0 : Int32) < 0 ∨ cl11.slots.size ≤ ((0 : Int32)).toNatClampNeg) := inb_of Sz11 ⟨by decide, by decide⟩
    obtain ⟨T12, h12, X12, e12, W12, st12⟩ := stJ X10 hx hZ e10 Ar11 (j := (0 : Int32)) hin12  (g := (mkF m 65 #[.val (.ref a1), .val (.int (0 : Int32)), .val (.int (3 : Int32)), .val (.int (-1 : Int32)), .val (.int (1 : Int32)), .val (.long x1), .second] [(.long x1), (.int (0 : Int32)), (.ref a1)])) rfl rfl (hb hby d18_65)
    have N12 := Fr.snoc X12 N10 ga
    have Z12 : n0 ≤ h12.size := by rw [W12.size]; exact Z10
    have K12 : Keep h0 h12 [a1] := K10.wr W12 (Or.inl (own_w 0 rfl))
    have V12 : Arv Z h12 a1 k .long (3 : Int32) [(.long x1), (.long x0), (.long x2)] (.long (0 : Int64)) := Arv.set Ar11 qk11 Sz11 Nn11 Hh11 Gg11 rfl W12 0 rfl (Nat.le_of_ble_eq_true rfl)
    obtain ⟨cl13, Ar13, qk13, Sz13, Nn13, Hh13, Gg13⟩ := id (V12)
    have hin14 : ¬ ((2 : Int32) < 0 ∨ cl13.slots.size ≤ ((2 : Int32)).toNatClampNeg) := inb_of Sz13 ⟨by decide, by decide⟩
    have hat14 : cl13.slots[((2 : Int32)).toNatClampNeg]? = some (.long x2) := Has.at Hh13 hin14 rfl
    obtain ⟨cl15, Ar15, qk15, Sz15, Nn15, Hh15, Gg15⟩ := id (V12)
    have hin16 : ¬ ((1 : Int32) < 0 ∨ cl15.slots.size ≤ ((1 : Int32)).toNatClampNeg) := inb_of Sz15 ⟨by decide, by decide⟩
    have hat16 : cl15.slots[((1 : Int32)).toNatClampNeg]? = some (.long x0) := Has.at Hh15 hin16 rfl
    by_cases hc28_2 : x2 < x0
    · obtain ⟨cl17, Ar17, qk17, Sz17, Nn17, Hh17, Gg17⟩ := id (V12)
      have hin18 : ¬ ((1 : Int32) < 0 ∨ cl17.slots.size ≤ ((1 : Int32)).toNatClampNeg) := inb_of Sz17 ⟨by decide, by decide⟩
      have hat18 : cl17.slots[((1 : Int32)).toNatClampNeg]? = some (.long x0) := Has.at Hh17 hin18 rfl
      obtain ⟨cl19, Ar19, qk19, Sz19, Nn19, Hh19, Gg19⟩ := id (V12)
      have hin20 : ¬ ((1 : Int32) < 0 ∨ cl19.slots.size ≤ ((1 : Int32)).toNatClampNeg) := inb_of Sz19 ⟨by decide, by decide⟩
      have hat20 : cl19.slots[((1 : Int32)).toNatClampNeg]? = some (.long x0) := Has.at Hh19 hin20 rfl
      obtain ⟨cl21, Ar21, qk21, Sz21, Nn21, Hh21, Gg21⟩ := id (V12)
      have hin22 : ¬ ((2 : Int32) < 0 ∨ cl21.slots.size ≤ ((2 : Int32)).toNatClampNeg) := inb_of Sz21 ⟨by decide, by decide⟩
      obtain ⟨T22, h22, X22, e22, W22, st22⟩ := stJ X12 hx hZ e12 Ar21 (j := (2 : Int32)) hin22  (g := (mkF m 55 #[.val (.ref a1), .val (.int (0 : Int32)), .val (.int (3 : Int32)), .val (.int (1 : Int32)), .val (.int (2 : Int32)), .val (.long x2), .second] [(.long x0), (.int (2 : Int32)), (.ref a1)])) rfl rfl (hb hby d18_55)
      have N22 := Fr.snoc X22 N12 ga
      have Z22 : n0 ≤ h22.size := by rw [W22.size]; exact Z12
      have K22 : Keep h0 h22 [a1] := K12.wr W22 (Or.inl (own_w 0 rfl))
      have V22 : Arv Z h22 a1 k .long (3 : Int32) [(.long x1), (.long x0), (.long x0)] (.long (0 : Int64)) := Arv.set Ar21 qk21 Sz21 Nn21 Hh21 Gg21 rfl W22 2 rfl (Nat.le_of_ble_eq_true rfl)
      obtain ⟨cl23, Ar23, qk23, Sz23, Nn23, Hh23, Gg23⟩ := id (V22)
      have hin24 : ¬ ((0 : Int32) < 0 ∨ cl23.slots.size ≤ ((0 : Int32)).toNatClampNeg) := inb_of Sz23 ⟨by decide, by decide⟩
      have hat24 : cl23.slots[((0 : Int32)).toNatClampNeg]? = some (.long x1) := Has.at Hh23 hin24 rfl
      by_cases hc45_3 : x2 < x1
      · obtain ⟨cl25, Ar25, qk25, Sz25, Nn25, Hh25, Gg25⟩ := id (V22)
        have hin26 : ¬ ((0 : Int32) < 0 ∨ cl25.slots.size ≤ ((0 : Int32)).toNatClampNeg) := inb_of Sz25 ⟨by decide, by decide⟩
        have hat26 : cl25.slots[((0 : Int32)).toNatClampNeg]? = some (.long x1) := Has.at Hh25 hin26 rfl
        obtain ⟨cl27, Ar27, qk27, Sz27, Nn27, Hh27, Gg27⟩ := id (V22)
        have hin28 : ¬ ((1 : Int32) < 0 ∨ cl27.slots.size ≤ ((1 : Int32)).toNatClampNeg) := inb_of Sz27 ⟨by decide, by decide⟩
        obtain ⟨T28, h28, X28, e28, W28, st28⟩ := stJ X22 hx hZ e22 Ar27 (j := (1 : Int32)) hin28  (g := (mkF m 55 #[.val (.ref a1), .val (.int (0 : Int32)), .val (.int (3 : Int32)), .val (.int (0 : Int32)), .val (.int (2 : Int32)), .val (.long x2), .second] [(.long x1), (.int (1 : Int32)), (.ref a1)])) rfl rfl (hb hby d18_55)
        have N28 := Fr.snoc X28 N22 ga
        have Z28 : n0 ≤ h28.size := by rw [W28.size]; exact Z22
        have K28 : Keep h0 h28 [a1] := K22.wr W28 (Or.inl (own_w 0 rfl))
        have V28 : Arv Z h28 a1 k .long (3 : Int32) [(.long x1), (.long x1), (.long x0)] (.long (0 : Int64)) := Arv.set Ar27 qk27 Sz27 Nn27 Hh27 Gg27 rfl W28 1 rfl (Nat.le_of_ble_eq_true rfl)
        obtain ⟨cl29, Ar29, qk29, Sz29, Nn29, Hh29, Gg29⟩ := id (V28)
        have hin30 : ¬ ((0 : Int32) < 0 ∨ cl29.slots.size ≤ ((0 : Int32)).toNatClampNeg) := inb_of Sz29 ⟨by decide, by decide⟩
        obtain ⟨T30, h30, X30, e30, W30, st30⟩ := stJ X28 hx hZ e28 Ar29 (j := (0 : Int32)) hin30  (g := (mkF m 65 #[.val (.ref a1), .val (.int (0 : Int32)), .val (.int (3 : Int32)), .val (.int (-1 : Int32)), .val (.int (2 : Int32)), .val (.long x2), .second] [(.long x2), (.int (0 : Int32)), (.ref a1)])) rfl rfl (hb hby d18_65)
        have N30 := Fr.snoc X30 N28 ga
        have Z30 : n0 ≤ h30.size := by rw [W30.size]; exact Z28
        have K30 : Keep h0 h30 [a1] := K28.wr W30 (Or.inl (own_w 0 rfl))
        have V30 : Arv Z h30 a1 k .long (3 : Int32) [(.long x2), (.long x1), (.long x0)] (.long (0 : Int64)) := Arv.set Ar29 qk29 Sz29 Nn29 Hh29 Gg29 rfl W30 0 rfl (Nat.le_of_ble_eq_true rfl)
        obtain ⟨fs, hr, hrun, hended, hW, hsame⟩ := X30.leave (v := none) (fun _ => rfl) (BodyLoose.notSynchronized Bd)
        refine ⟨_, _, pre0 _ ?_, hrun, hended, _, _, rfl, ?_, ⟨_, rfl⟩, hW, hsame.mono (by decide) (by decide)⟩
        · show Steps p.tables e below (s₁.setTop (mkF m 0 #[.val (.ref a1), .val (.int (0 : Int32)), .val (.int (3 : Int32)), .unset, .unset, .unset, .unset] [])) _
          refine XS.iloadN X0.here hx rfl (hb hby d18_0) rfl ?_
          refine XS.istore X0.here hx rfl (hb hby d18_1) rfl (l' := #[.val (.ref a1), .val (.int (0 : Int32)), .val (.int (3 : Int32)), .unset, .val (.int (0 : Int32)), .unset, .unset]) rfl ?_
          refine XS.iinc X0.here hx rfl (hb hby d18_3) rfl (l' := #[.val (.ref a1), .val (.int (0 : Int32)), .val (.int (3 : Int32)), .unset, .val (.int (1 : Int32)), .unset, .unset]) rfl ?_
          refine XS.iload X0.here hx rfl (hb hby d18_6) rfl ?_
          refine XS.iloadN X0.here hx rfl (hb hby d18_8) rfl ?_
          refine XS.icmpNo X0.here hx rfl (hb hby d18_9) rfl (tlt (by decide)).2.1 ?_
          refine XS.aloadN X0.here hx rfl (hb hby d18_12) rfl rfl ?_
          refine XS.iload X0.here hx rfl (hb hby d18_13) rfl ?_
          refine XS.dup X0.here hx rfl (hb hby d18_15) rfl rfl ?_
          refine XS.istoreN X0.here hx rfl (hb hby d18_16) rfl (l' := #[.val (.ref a1), .val (.int (0 : Int32)), .val (.int (3 : Int32)), .val (.int (1 : Int32)), .val (.int (1 : Int32)), .unset, .unset]) rfl ?_
          refine X0.laload hx (j := (1 : Int32)) (v := (.long x1)) (by rw [e0]; exact Ar1.1) (State.isArrayOf_alike hZ.alike Ar1.2.1) Ar1.2.2 hin2 hat2 (g := (mkF m 17 #[.val (.ref a1), .val (.int (0 : Int32)), .val (.int (3 : Int32)), .val (.int (1 : Int32)), .val (.int (1 : Int32)), .unset, .unset] [(.int (1 : Int32)), (.ref a1)])) rfl rfl (hb hby d18_17) _ ?_
          refine XS.lstore X0.here hx rfl (hb hby d18_18) rfl (l' := #[.val (.ref a1), .val (.int (0 : Int32)), .val (.int (3 : Int32)), .val (.int (1 : Int32)), .val (.int (1 : Int32)), .val (.long x1), .second]) rfl ?_
          refine XS.lload X0.here hx rfl (hb hby d18_20) rfl ?_
          refine XS.aloadN X0.here hx rfl (hb hby d18_22) rfl rfl ?_
          refine XS.iloadN X0.here hx rfl (hb hby d18_23) rfl ?_
          refine XS.iconst X0.here hx rfl (hb hby d18_24) ?_
          refine XS.isub X0.here hx rfl (hb hby d18_25) rfl ?_
          refine X0.laload hx (j := (0 : Int32)) (v := (.long x0)) (by rw [e0]; exact Ar3.1) (State.isArrayOf_alike hZ.alike Ar3.2.1) Ar3.2.2 hin4 hat4 (g := (mkF m 26 #[.val (.ref a1), .val (.int (0 : Int32)), .val (.int (3 : Int32)), .val (.int (1 : Int32)), .val (.int (1 : Int32)), .val (.long x1), .second] [(.int (0 : Int32)), (.ref a1), (.long x1)])) rfl rfl (hb hby d18_26) _ ?_
          refine XS.lcmp X0.here hx rfl (hb hby d18_27) rfl ?_
          refine XS.ifNo X0.here hx rfl (hb hby d18_28) rfl ((if0 _ _).trans (tlt (own_lclt hc28)).2.1) ?_
          refine XS.iinc X0.here hx rfl (hb hby d18_31) rfl (l' := #[.val (.ref a1), .val (.int (0 : Int32)), .val (.int (3 : Int32)), .val (.int (0 : Int32)), .val (.int (1 : Int32)), .val (.long x1), .second]) rfl ?_
          refine XS.iloadN X0.here hx rfl (hb hby d18_34) rfl ?_
          refine XS.iloadN X0.here hx rfl (hb hby d18_35) rfl ?_
          refine XS.icmpNo X0.here hx rfl (hb hby d18_36) rfl (flt (by decide)).1 ?_
          refine XS.lload X0.here hx rfl (hb hby d18_39) rfl ?_
          refine XS.aloadN X0.here hx rfl (hb hby d18_41) rfl rfl ?_
          refine XS.iloadN X0.here hx rfl (hb hby d18_42) rfl ?_
          refine X0.laload hx (j := (0 : Int32)) (v := (.long x0)) (by rw [e0]; exact Ar5.1) (State.isArrayOf_alike hZ.alike Ar5.2.1) Ar5.2.2 hin6 hat6 (g := (mkF m 43 #[.val (.ref a1), .val (.int (0 : Int32)), .val (.int (3 : Int32)), .val (.int (0 : Int32)), .val (.int (1 : Int32)), .val (.long x1), .second] [(.int (0 : Int32)), (.ref a1), (.long x1)])) rfl rfl (hb hby d18_43) _ ?_
          refine XS.lcmp X0.here hx rfl (hb hby d18_44) rfl ?_
          refine XS.ifNo X0.here hx rfl (hb hby d18_45) rfl ((if0 _ _).trans (tlt (own_lclt hc28)).2.1) ?_
          refine XS.aloadN X0.here hx rfl (hb hby d18_48) rfl rfl ?_
          refine XS.iloadN X0.here hx rfl (hb hby d18_49) rfl ?_
          refine XS.iconst X0.here hx rfl (hb hby d18_50) ?_
          refine XS.iadd X0.here hx rfl (hb hby d18_51) rfl ?_
          refine XS.aloadN X0.here hx rfl (hb hby d18_52) rfl rfl ?_
          refine XS.iloadN X0.here hx rfl (hb hby d18_53) rfl ?_
          refine X0.laload hx (j := (0 : Int32)) (v := (.long x0)) (by rw [e0]; exact Ar7.1) (State.isArrayOf_alike hZ.alike Ar7.2.1) Ar7.2.2 hin8 hat8 (g := (mkF m 54 #[.val (.ref a1), .val (.int (0 : Int32)), .val (.int (3 : Int32)), .val (.int (0 : Int32)), .val (.int (1 : Int32)), .val (.long x1), .second] [(.int (0 : Int32)), (.ref a1), (.int (1 : Int32)), (.ref a1)])) rfl rfl (hb hby d18_54) _ ?_
          refine st10 _ ?_
          refine XS.goto X10.here hx rfl (pc0 := 56) (pc' := 31) rfl (hb hby d18_56) (by decide) (by decide) ?_
          refine XS.iinc X10.here hx rfl (hb hby d18_31) rfl (l' := #[.val (.ref a1), .val (.int (0 : Int32)), .val (.int (3 : Int32)), .val (.int (-1 : Int32)), .val (.int (1 : Int32)), .val (.long x1), .second]) rfl ?_
          show Steps p.tables e below (T10.setTop (mkF m 34 #[.val (.ref a1), .val (.int (0 : Int32)), .val (.int (3 : Int32)), .val (.int (-1 : Int32)), .val (.int (1 : Int32)), .val (.long x1), .second] [])) _
          refine XS.iloadN X10.here hx rfl (hb hby d18_34) rfl ?_
          refine XS.iloadN X10.here hx rfl (hb hby d18_35) rfl ?_
          refine XS.icmpYes X10.here hx rfl (pc0 := 36) (pc' := 59) rfl (hb hby d18_36) rfl (tlt (by decide)).1 (by decide) (by decide) ?_
          refine XS.aloadN X10.here hx rfl (hb hby d18_59) rfl rfl ?_
          refine XS.iloadN X10.here hx rfl (hb hby d18_60) rfl ?_
          refine XS.iconst X10.here hx rfl (hb hby d18_61) ?_
          refine XS.iadd X10.here hx rfl (hb hby d18_62) rfl ?_
          refine XS.lload X10.here hx rfl (hb hby d18_63) rfl ?_
          refine st12 _ ?_
          refine XS.goto X12.here hx rfl (pc0 := 66) (pc' := 3) rfl (hb hby d18_66) (by decide) (by decide) ?_
          refine XS.iinc X12.here hx rfl (hb hby d18_3) rfl (l' := #[.val (.ref a1), .val (.int (0 : Int32)), .val (.int (3 : Int32)), .val (.int (-1 : Int32)), .val (.int (2 : Int32)), .val (.long x1), .second]) rfl ?_
          refine XS.iload X12.here hx rfl (hb hby d18_6) rfl ?_
          refine XS.iloadN X12.here hx rfl (hb hby d18_8) rfl ?_
          refine XS.icmpNo X12.here hx rfl (hb hby d18_9) rfl (tlt (by decide)).2.1 ?_
          refine XS.aloadN X12.here hx rfl (hb hby d18_12) rfl rfl ?_
          refine XS.iload X12.here hx rfl (hb hby d18_13) rfl ?_
          refine XS.dup X12.here hx rfl (hb hby d18_15) rfl rfl ?_
          refine XS.istoreN X12.here hx rfl (hb hby d18_16) rfl (l' := #[.val (.ref a1), .val (.int (0 : Int32)), .val (.int (3 : Int32)), .val (.int (2 : Int32)), .val (.int (2 : Int32)), .val (.long x1), .second]) rfl ?_
          refine X12.laload hx (j := (2 : Int32)) (v := (.long x2)) (by rw [e12]; exact Ar13.1) (State.isArrayOf_alike hZ.alike Ar13.2.1) Ar13.2.2 hin14 hat14 (g := (mkF m 17 #[.val (.ref a1), .val (.int (0 : Int32)), .val (.int (3 : Int32)), .val (.int (2 : Int32)), .val (.int (2 : Int32)), .val (.long x1), .second] [(.int (2 : Int32)), (.ref a1)])) rfl rfl (hb hby d18_17) _ ?_
          refine XS.lstore X12.here hx rfl (hb hby d18_18) rfl (l' := #[.val (.ref a1), .val (.int (0 : Int32)), .val (.int (3 : Int32)), .val (.int (2 : Int32)), .val (.int (2 : Int32)), .val (.long x2), .second]) rfl ?_
          refine XS.lload X12.here hx rfl (hb hby d18_20) rfl ?_
          refine XS.aloadN X12.here hx rfl (hb hby d18_22) rfl rfl ?_
          refine XS.iloadN X12.here hx rfl (hb hby d18_23) rfl ?_
          refine XS.iconst X12.here hx rfl (hb hby d18_24) ?_
          refine XS.isub X12.here hx rfl (hb hby d18_25) rfl ?_
          refine X12.laload hx (j := (1 : Int32)) (v := (.long x0)) (by rw [e12]; exact Ar15.1) (State.isArrayOf_alike hZ.alike Ar15.2.1) Ar15.2.2 hin16 hat16 (g := (mkF m 26 #[.val (.ref a1), .val (.int (0 : Int32)), .val (.int (3 : Int32)), .val (.int (2 : Int32)), .val (.int (2 : Int32)), .val (.long x2), .second] [(.int (1 : Int32)), (.ref a1), (.long x2)])) rfl rfl (hb hby d18_26) _ ?_
          refine XS.lcmp X12.here hx rfl (hb hby d18_27) rfl ?_
          refine XS.ifNo X12.here hx rfl (hb hby d18_28) rfl ((if0 _ _).trans (tlt (own_lclt hc28_2)).2.1) ?_
          refine XS.iinc X12.here hx rfl (hb hby d18_31) rfl (l' := #[.val (.ref a1), .val (.int (0 : Int32)), .val (.int (3 : Int32)), .val (.int (1 : Int32)), .val (.int (2 : Int32)), .val (.long x2), .second]) rfl ?_
          refine XS.iloadN X12.here hx rfl (hb hby d18_34) rfl ?_
          refine XS.iloadN X12.here hx rfl (hb hby d18_35) rfl ?_
          refine XS.icmpNo X12.here hx rfl (hb hby d18_36) rfl (flt (by decide)).1 ?_
          refine XS.lload X12.here hx rfl (hb hby d18_39) rfl ?_
          refine XS.aloadN X12.here hx rfl (hb hby d18_41) rfl rfl ?_
          refine XS.iloadN X12.here hx rfl (hb hby d18_42) rfl ?_
          refine X12.laload hx (j := (1 : Int32)) (v := (.long x0)) (by rw [e12]; exact Ar17.1) (State.isArrayOf_alike hZ.alike Ar17.2.1) Ar17.2.2 hin18 hat18 (g := (mkF m 43 #[.val (.ref a1), .val (.int (0 : Int32)), .val (.int (3 : Int32)), .val (.int (1 : Int32)), .val (.int (2 : Int32)), .val (.long x2), .second] [(.int (1 : Int32)), (.ref a1), (.long x2)])) rfl rfl (hb hby d18_43) _ ?_
          refine XS.lcmp X12.here hx rfl (hb hby d18_44) rfl ?_
          refine XS.ifNo X12.here hx rfl (hb hby d18_45) rfl ((if0 _ _).trans (tlt (own_lclt hc28_2)).2.1) ?_
          refine XS.aloadN X12.here hx rfl (hb hby d18_48) rfl rfl ?_
          refine XS.iloadN X12.here hx rfl (hb hby d18_49) rfl ?_
          show Steps p.tables e below (T12.setTop (mkF m 50 #[.val (.ref a1), .val (.int (0 : Int32)), .val (.int (3 : Int32)), .val (.int (1 : Int32)), .val (.int (2 : Int32)), .val (.long x2), .second] [(.int (1 : Int32)), (.ref a1)])) _
          refine XS.iconst X12.here hx rfl (hb hby d18_50) ?_
          refine XS.iadd X12.here hx rfl (hb hby d18_51) rfl ?_
          refine XS.aloadN X12.here hx rfl (hb hby d18_52) rfl rfl ?_
          refine XS.iloadN X12.here hx rfl (hb hby d18_53) rfl ?_
          refine X12.laload hx (j := (1 : Int32)) (v := (.long x0)) (by rw [e12]; exact Ar19.1) (State.isArrayOf_alike hZ.alike Ar19.2.1) Ar19.2.2 hin20 hat20 (g := (mkF m 54 #[.val (.ref a1), .val (.int (0 : Int32)), .val (.int (3 : Int32)), .val (.int (1 : Int32)), .val (.int (2 : Int32)), .val (.long x2), .second] [(.int (1 : Int32)), (.ref a1), (.int (2 : Int32)), (.ref a1)])) rfl rfl (hb hby d18_54) _ ?_
          refine st22 _ ?_
          refine XS.goto X22.here hx rfl (pc0 := 56) (pc' := 31) rfl (hb hby d18_56) (by decide) (by decide) ?_
          refine XS.iinc X22.here hx rfl (hb hby d18_31) rfl (l' := #[.val (.ref a1), .val (.int (0 : Int32)), .val (.int (3 : Int32)), .val (.int (0 : Int32)), .val (.int (2 : Int32)), .val (.long x2), .second]) rfl ?_
          refine XS.iloadN X22.here hx rfl (hb hby d18_34) rfl ?_
          refine XS.iloadN X22.here hx rfl (hb hby d18_35) rfl ?_
          refine XS.icmpNo X22.here hx rfl (hb hby d18_36) rfl (flt (by decide)).1 ?_
          refine XS.lload X22.here hx rfl (hb hby d18_39) rfl ?_
          refine XS.aloadN X22.here hx rfl (hb hby d18_41) rfl rfl ?_
          refine XS.iloadN X22.here hx rfl (hb hby d18_42) rfl ?_
          refine X22.laload hx (j := (0 : Int32)) (v := (.long x1)) (by rw [e22]; exact Ar23.1) (State.isArrayOf_alike hZ.alike Ar23.2.1) Ar23.2.2 hin24 hat24 (g := (mkF m 43 #[.val (.ref a1), .val (.int (0 : Int32)), .val (.int (3 : Int32)), .val (.int (0 : Int32)), .val (.int (2 : Int32)), .val (.long x2), .second] [(.int (0 : Int32)), (.ref a1), (.long x2)])) rfl rfl (hb hby d18_43) _ ?_
          refine XS.lcmp X22.here hx rfl (hb hby d18_44) rfl ?_
          refine XS.ifNo X22.here hx rfl (hb hby d18_45) rfl ((if0 _ _).trans (tlt (own_lclt hc45_3)).2.1) ?_
          refine XS.aloadN X22.here hx rfl (hb hby d18_48) rfl rfl ?_
          refine XS.iloadN X22.here hx rfl (hb hby d18_49) rfl ?_
          refine XS.iconst X22.here hx rfl (hb hby d18_50) ?_
          refine XS.iadd X22.here hx rfl (hb hby d18_51) rfl ?_
          refine XS.aloadN X22.here hx rfl (hb hby d18_52) rfl rfl ?_
          refine XS.iloadN X22.here hx rfl (hb hby d18_53) rfl ?_
          refine X22.laload hx (j := (0 : Int32)) (v := (.long x1)) (by rw [e22]; exact Ar25.1) (State.isArrayOf_alike hZ.alike Ar25.2.1) Ar25.2.2 hin26 hat26 (g := (mkF m 54 #[.val (.ref a1), .val (.int (0 : Int32)), .val (.int (3 : Int32)), .val (.int (0 : Int32)), .val (.int (2 : Int32)), .val (.long x2), .second] [(.int (0 : Int32)), (.ref a1), (.int (1 : Int32)), (.ref a1)])) rfl rfl (hb hby d18_54) _ ?_
          refine st28 _ ?_
          refine XS.goto X28.here hx rfl (pc0 := 56) (pc' := 31) rfl (hb hby d18_56) (by decide) (by decide) ?_
          refine XS.iinc X28.here hx rfl (hb hby d18_31) rfl (l' := #[.val (.ref a1), .val (.int (0 : Int32)), .val (.int (3 : Int32)), .val (.int (-1 : Int32)), .val (.int (2 : Int32)), .val (.long x2), .second]) rfl ?_
          refine XS.iloadN X28.here hx rfl (hb hby d18_34) rfl ?_
          refine XS.iloadN X28.here hx rfl (hb hby d18_35) rfl ?_
          refine XS.icmpYes X28.here hx rfl (pc0 := 36) (pc' := 59) rfl (hb hby d18_36) rfl (tlt (by decide)).1 (by decide) (by decide) ?_
          refine XS.aloadN X28.here hx rfl (hb hby d18_59) rfl rfl ?_
          refine XS.iloadN X28.here hx rfl (hb hby d18_60) rfl ?_
          refine XS.iconst X28.here hx rfl (hb hby d18_61) ?_
          refine XS.iadd X28.here hx rfl (hb hby d18_62) rfl ?_
          refine XS.lload X28.here hx rfl (hb hby d18_63) rfl ?_
          refine st30 _ ?_
          refine XS.goto X30.here hx rfl (pc0 := 66) (pc' := 3) rfl (hb hby d18_66) (by decide) (by decide) ?_
          refine XS.iinc X30.here hx rfl (hb hby d18_3) rfl (l' := #[.val (.ref a1), .val (.int (0 : Int32)), .val (.int (3 : Int32)), .val (.int (-1 : Int32)), .val (.int (3 : Int32)), .val (.long x2), .second]) rfl ?_
          refine XS.iload X30.here hx rfl (hb hby d18_6) rfl ?_
          refine XS.iloadN X30.here hx rfl (hb hby d18_8) rfl ?_
          show Steps p.tables e below (T30.setTop (mkF m 9 #[.val (.ref a1), .val (.int (0 : Int32)), .val (.int (3 : Int32)), .val (.int (-1 : Int32)), .val (.int (3 : Int32)), .val (.long x2), .second] [(.int (3 : Int32)), (.int (3 : Int32))])) _
          refine XS.icmpYes X30.here hx rfl (pc0 := 9) (pc' := 69) rfl (hb hby d18_9) rfl (flt (by decide)).2.1 (by decide) (by decide) ?_
          show Steps p.tables e below (T30.setTop (mkF m 69 #[.val (.ref a1), .val (.int (0 : Int32)), .val (.int (3 : Int32)), .val (.int (-1 : Int32)), .val (.int (3 : Int32)), .val (.long x2), .second] [])) _
          exact X30.returnOut hx Bd.returns (hb hby d18_69) hr
        · show Qrmi3 Z a1 k x0 x1 x2 h0 n0 _ T30.heap _
          rw [e30]
          exact ⟨rfl, N30, K30, x2, x1, x0, V30, ⟨(own_ltN hc45_3), (own_ltN hc28)⟩, (Or.inr (Or.inr (Or.inr (Or.inr (Or.inr ⟨rfl, rfl, rfl⟩)))))⟩
      · obtain ⟨cl31, Ar31, qk31, Sz31, Nn31, Hh31, Gg31⟩ := id (V22)
        have hin32 : ¬ ((1 : Int32) < 0 ∨ cl31.slots.size ≤ ((1 : Int32)).toNatClampNeg) := inb_of Sz31 ⟨by decide, by decide⟩
        obtain ⟨T32, h32, X32, e32, W32, st32⟩ := stJ X22 hx hZ e22 Ar31 (j := (1 : Int32)) hin32  (g := (mkF m 65 #[.val (.ref a1), .val (.int (0 : Int32)), .val (.int (3 : Int32)), .val (.int (0 : Int32)), .val (.int (2 : Int32)), .val (.long x2), .second] [(.long x2), (.int (1 : Int32)), (.ref a1)])) rfl rfl (hb hby d18_65)
        have N32 := Fr.snoc X32 N22 ga
        have Z32 : n0 ≤ h32.size := by rw [W32.size]; exact Z22
        have K32 : Keep h0 h32 [a1] := K22.wr W32 (Or.inl (own_w 0 rfl))
        have V32 : Arv Z h32 a1 k .long (3 : Int32) [(.long x1), (.long x2), (.long x0)] (.long (0 : Int64)) := Arv.set Ar31 qk31 Sz31 Nn31 Hh31 Gg31 rfl W32 1 rfl (Nat.le_of_ble_eq_true rfl)
        obtain ⟨fs, hr, hrun, hended, hW, hsame⟩ := X32.leave (v := none) (fun _ => rfl) (BodyLoose.notSynchronized Bd)
        refine ⟨_, _, pre0 _ ?_, hrun, hended, _, _, rfl, ?_, ⟨_, rfl⟩, hW, hsame.mono (by decide) (by decide)⟩
        · show Steps p.tables e below (s₁.setTop (mkF m 0 #[.val (.ref a1), .val (.int (0 : Int32)), .val (.int (3 : Int32)), .unset, .unset, .unset, .unset] [])) _
          refine XS.iloadN X0.here hx rfl (hb hby d18_0) rfl ?_
          refine XS.istore X0.here hx rfl (hb hby d18_1) rfl (l' := #[.val (.ref a1), .val (.int (0 : Int32)), .val (.int (3 : Int32)), .unset, .val (.int (0 : Int32)), .unset, .unset]) rfl ?_
          refine XS.iinc X0.here hx rfl (hb hby d18_3) rfl (l' := #[.val (.ref a1), .val (.int (0 : Int32)), .val (.int (3 : Int32)), .unset, .val (.int (1 : Int32)), .unset, .unset]) rfl ?_
          refine XS.iload X0.here hx rfl (hb hby d18_6) rfl ?_
          refine XS.iloadN X0.here hx rfl (hb hby d18_8) rfl ?_
          refine XS.icmpNo X0.here hx rfl (hb hby d18_9) rfl (tlt (by decide)).2.1 ?_
          refine XS.aloadN X0.here hx rfl (hb hby d18_12) rfl rfl ?_
          refine XS.iload X0.here hx rfl (hb hby d18_13) rfl ?_
          refine XS.dup X0.here hx rfl (hb hby d18_15) rfl rfl ?_
          refine XS.istoreN X0.here hx rfl (hb hby d18_16) rfl (l' := #[.val (.ref a1), .val (.int (0 : Int32)), .val (.int (3 : Int32)), .val (.int (1 : Int32)), .val (.int (1 : Int32)), .unset, .unset]) rfl ?_
          refine X0.laload hx (j := (1 : Int32)) (v := (.long x1)) (by rw [e0]; exact Ar1.1) (State.isArrayOf_alike hZ.alike Ar1.2.1) Ar1.2.2 hin2 hat2 (g := (mkF m 17 #[.val (.ref a1), .val (.int (0 : Int32)), .val (.int (3 : Int32)), .val (.int (1 : Int32)), .val (.int (1 : Int32)), .unset, .unset] [(.int (1 : Int32)), (.ref a1)])) rfl rfl (hb hby d18_17) _ ?_
          refine XS.lstore X0.here hx rfl (hb hby d18_18) rfl (l' := #[.val (.ref a1), .val (.int (0 : Int32)), .val (.int (3 : Int32)), .val (.int (1 : Int32)), .val (.int (1 : Int32)), .val (.long x1), .second]) rfl ?_
          refine XS.lload X0.here hx rfl (hb hby d18_20) rfl ?_
          refine XS.aloadN X0.here hx rfl (hb hby d18_22) rfl rfl ?_
          refine XS.iloadN X0.here hx rfl (hb hby d18_23) rfl ?_
          refine XS.iconst X0.here hx rfl (hb hby d18_24) ?_
          refine XS.isub X0.here hx rfl (hb hby d18_25) rfl ?_
          refine X0.laload hx (j := (0 : Int32)) (v := (.long x0)) (by rw [e0]; exact Ar3.1) (State.isArrayOf_alike hZ.alike Ar3.2.1) Ar3.2.2 hin4 hat4 (g := (mkF m 26 #[.val (.ref a1), .val (.int (0 : Int32)), .val (.int (3 : Int32)), .val (.int (1 : Int32)), .val (.int (1 : Int32)), .val (.long x1), .second] [(.int (0 : Int32)), (.ref a1), (.long x1)])) rfl rfl (hb hby d18_26) _ ?_
          refine XS.lcmp X0.here hx rfl (hb hby d18_27) rfl ?_
          refine XS.ifNo X0.here hx rfl (hb hby d18_28) rfl ((if0 _ _).trans (tlt (own_lclt hc28)).2.1) ?_
          refine XS.iinc X0.here hx rfl (hb hby d18_31) rfl (l' := #[.val (.ref a1), .val (.int (0 : Int32)), .val (.int (3 : Int32)), .val (.int (0 : Int32)), .val (.int (1 : Int32)), .val (.long x1), .second]) rfl ?_
          refine XS.iloadN X0.here hx rfl (hb hby d18_34) rfl ?_
          refine XS.iloadN X0.here hx rfl (hb hby d18_35) rfl ?_
          refine XS.icmpNo X0.here hx rfl (hb hby d18_36) rfl (flt (by decide)).1 ?_
          refine XS.lload X0.here hx rfl (hb hby d18_39) rfl ?_
          refine XS.aloadN X0.here hx rfl (hb hby d18_41) rfl rfl ?_
          refine XS.iloadN X0.here hx rfl (hb hby d18_42) rfl ?_
          refine X0.laload hx (j := (0 : Int32)) (v := (.long x0)) (by rw [e0]; exact Ar5.1) (State.isArrayOf_alike hZ.alike Ar5.2.1) Ar5.2.2 hin6 hat6 (g := (mkF m 43 #[.val (.ref a1), .val (.int (0 : Int32)), .val (.int (3 : Int32)), .val (.int (0 : Int32)), .val (.int (1 : Int32)), .val (.long x1), .second] [(.int (0 : Int32)), (.ref a1), (.long x1)])) rfl rfl (hb hby d18_43) _ ?_
          refine XS.lcmp X0.here hx rfl (hb hby d18_44) rfl ?_
          refine XS.ifNo X0.here hx rfl (hb hby d18_45) rfl ((if0 _ _).trans (tlt (own_lclt hc28)).2.1) ?_
          refine XS.aloadN X0.here hx rfl (hb hby d18_48) rfl rfl ?_
          refine XS.iloadN X0.here hx rfl (hb hby d18_49) rfl ?_
          refine XS.iconst X0.here hx rfl (hb hby d18_50) ?_
          refine XS.iadd X0.here hx rfl (hb hby d18_51) rfl ?_
          refine XS.aloadN X0.here hx rfl (hb hby d18_52) rfl rfl ?_
          refine XS.iloadN X0.here hx rfl (hb hby d18_53) rfl ?_
          refine X0.laload hx (j := (0 : Int32)) (v := (.long x0)) (by rw [e0]; exact Ar7.1) (State.isArrayOf_alike hZ.alike Ar7.2.1) Ar7.2.2 hin8 hat8 (g := (mkF m 54 #[.val (.ref a1), .val (.int (0 : Int32)), .val (.int (3 : Int32)), .val (.int (0 : Int32)), .val (.int (1 : Int32)), .val (.long x1), .second] [(.int (0 : Int32)), (.ref a1), (.int (1 : Int32)), (.ref a1)])) rfl rfl (hb hby d18_54) _ ?_
          refine st10 _ ?_
          refine XS.goto X10.here hx rfl (pc0 := 56) (pc' := 31) rfl (hb hby d18_56) (by decide) (by decide) ?_
          refine XS.iinc X10.here hx rfl (hb hby d18_31) rfl (l' := #[.val (.ref a1), .val (.int (0 : Int32)), .val (.int (3 : Int32)), .val (.int (-1 : Int32)), .val (.int (1 : Int32)), .val (.long x1), .second]) rfl ?_
          show Steps p.tables e below (T10.setTop (mkF m 34 #[.val (.ref a1), .val (.int (0 : Int32)), .val (.int (3 : Int32)), .val (.int (-1 : Int32)), .val (.int (1 : Int32)), .val (.long x1), .second] [])) _
          refine XS.iloadN X10.here hx rfl (hb hby d18_34) rfl ?_
          refine XS.iloadN X10.here hx rfl (hb hby d18_35) rfl ?_
          refine XS.icmpYes X10.here hx rfl (pc0 := 36) (pc' := 59) rfl (hb hby d18_36) rfl (tlt (by decide)).1 (by decide) (by decide) ?_
          refine XS.aloadN X10.here hx rfl (hb hby d18_59) rfl rfl ?_
          refine XS.iloadN X10.here hx rfl (hb hby d18_60) rfl ?_
          refine XS.iconst X10.here hx rfl (hb hby d18_61) ?_
          refine XS.iadd X10.here hx rfl (hb hby d18_62) rfl ?_
          refine XS.lload X10.here hx rfl (hb hby d18_63) rfl ?_
          refine st12 _ ?_
          refine XS.goto X12.here hx rfl (pc0 := 66) (pc' := 3) rfl (hb hby d18_66) (by decide) (by decide) ?_
          refine XS.iinc X12.here hx rfl (hb hby d18_3) rfl (l' := #[.val (.ref a1), .val (.int (0 : Int32)), .val (.int (3 : Int32)), .val (.int (-1 : Int32)), .val (.int (2 : Int32)), .val (.long x1), .second]) rfl ?_
          refine XS.iload X12.here hx rfl (hb hby d18_6) rfl ?_
          refine XS.iloadN X12.here hx rfl (hb hby d18_8) rfl ?_
          refine XS.icmpNo X12.here hx rfl (hb hby d18_9) rfl (tlt (by decide)).2.1 ?_
          refine XS.aloadN X12.here hx rfl (hb hby d18_12) rfl rfl ?_
          refine XS.iload X12.here hx rfl (hb hby d18_13) rfl ?_
          refine XS.dup X12.here hx rfl (hb hby d18_15) rfl rfl ?_
          refine XS.istoreN X12.here hx rfl (hb hby d18_16) rfl (l' := #[.val (.ref a1), .val (.int (0 : Int32)), .val (.int (3 : Int32)), .val (.int (2 : Int32)), .val (.int (2 : Int32)), .val (.long x1), .second]) rfl ?_
          refine X12.laload hx (j := (2 : Int32)) (v := (.long x2)) (by rw [e12]; exact Ar13.1) (State.isArrayOf_alike hZ.alike Ar13.2.1) Ar13.2.2 hin14 hat14 (g := (mkF m 17 #[.val (.ref a1), .val (.int (0 : Int32)), .val (.int (3 : Int32)), .val (.int (2 : Int32)), .val (.int (2 : Int32)), .val (.long x1), .second] [(.int (2 : Int32)), (.ref a1)])) rfl rfl (hb hby d18_17) _ ?_
          refine XS.lstore X12.here hx rfl (hb hby d18_18) rfl (l' := #[.val (.ref a1), .val (.int (0 : Int32)), .val (.int (3 : Int32)), .val (.int (2 : Int32)), .val (.int (2 : Int32)), .val (.long x2), .second]) rfl ?_
          refine XS.lload X12.here hx rfl (hb hby d18_20) rfl ?_
          refine XS.aloadN X12.here hx rfl (hb hby d18_22) rfl rfl ?_
          refine XS.iloadN X12.here hx rfl (hb hby d18_23) rfl ?_
          refine XS.iconst X12.here hx rfl (hb hby d18_24) ?_
          refine XS.isub X12.here hx rfl (hb hby d18_25) rfl ?_
          refine X12.laload hx (j := (1 : Int32)) (v := (.long x0)) (by rw [e12]; exact Ar15.1) (State.isArrayOf_alike hZ.alike Ar15.2.1) Ar15.2.2 hin16 hat16 (g := (mkF m 26 #[.val (.ref a1), .val (.int (0 : Int32)), .val (.int (3 : Int32)), .val (.int (2 : Int32)), .val (.int (2 : Int32)), .val (.long x2), .second] [(.int (1 : Int32)), (.ref a1), (.long x2)])) rfl rfl (hb hby d18_26) _ ?_
          refine XS.lcmp X12.here hx rfl (hb hby d18_27) rfl ?_
          refine XS.ifNo X12.here hx rfl (hb hby d18_28) rfl ((if0 _ _).trans (tlt (own_lclt hc28_2)).2.1) ?_
          refine XS.iinc X12.here hx rfl (hb hby d18_31) rfl (l' := #[.val (.ref a1), .val (.int (0 : Int32)), .val (.int (3 : Int32)), .val (.int (1 : Int32)), .val (.int (2 : Int32)), .val (.long x2), .second]) rfl ?_
          refine XS.iloadN X12.here hx rfl (hb hby d18_34) rfl ?_
          refine XS.iloadN X12.here hx rfl (hb hby d18_35) rfl ?_
          refine XS.icmpNo X12.here hx rfl (hb hby d18_36) rfl (flt (by decide)).1 ?_
          refine XS.lload X12.here hx rfl (hb hby d18_39) rfl ?_
          refine XS.aloadN X12.here hx rfl (hb hby d18_41) rfl rfl ?_
          refine XS.iloadN X12.here hx rfl (hb hby d18_42) rfl ?_
          refine X12.laload hx (j := (1 : Int32)) (v := (.long x0)) (by rw [e12]; exact Ar17.1) (State.isArrayOf_alike hZ.alike Ar17.2.1) Ar17.2.2 hin18 hat18 (g := (mkF m 43 #[.val (.ref a1), .val (.int (0 : Int32)), .val (.int (3 : Int32)), .val (.int (1 : Int32)), .val (.int (2 : Int32)), .val (.long x2), .second] [(.int (1 : Int32)), (.ref a1), (.long x2)])) rfl rfl (hb hby d18_43) _ ?_
          refine XS.lcmp X12.here hx rfl (hb hby d18_44) rfl ?_
          refine XS.ifNo X12.here hx rfl (hb hby d18_45) rfl ((if0 _ _).trans (tlt (own_lclt hc28_2)).2.1) ?_
          refine XS.aloadN X12.here hx rfl (hb hby d18_48) rfl rfl ?_
          refine XS.iloadN X12.here hx rfl (hb hby d18_49) rfl ?_
          show Steps p.tables e below (T12.setTop (mkF m 50 #[.val (.ref a1), .val (.int (0 : Int32)), .val (.int (3 : Int32)), .val (.int (1 : Int32)), .val (.int (2 : Int32)), .val (.long x2), .second] [(.int (1 : Int32)), (.ref a1)])) _
          refine XS.iconst X12.here hx rfl (hb hby d18_50) ?_
          refine XS.iadd X12.here hx rfl (hb hby d18_51) rfl ?_
          refine XS.aloadN X12.here hx rfl (hb hby d18_52) rfl rfl ?_
          refine XS.iloadN X12.here hx rfl (hb hby d18_53) rfl ?_
          refine X12.laload hx (j := (1 : Int32)) (v := (.long x0)) (by rw [e12]; exact Ar19.1) (State.isArrayOf_alike hZ.alike Ar19.2.1) Ar19.2.2 hin20 hat20 (g := (mkF m 54 #[.val (.ref a1), .val (.int (0 : Int32)), .val (.int (3 : Int32)), .val (.int (1 : Int32)), .val (.int (2 : Int32)), .val (.long x2), .second] [(.int (1 : Int32)), (.ref a1), (.int (2 : Int32)), (.ref a1)])) rfl rfl (hb hby d18_54) _ ?_
          refine st22 _ ?_
          refine XS.goto X22.here hx rfl (pc0 := 56) (pc' := 31) rfl (hb hby d18_56) (by decide) (by decide) ?_
          refine XS.iinc X22.here hx rfl (hb hby d18_31) rfl (l' := #[.val (.ref a1), .val (.int (0 : Int32)), .val (.int (3 : Int32)), .val (.int (0 : Int32)), .val (.int (2 : Int32)), .val (.long x2), .second]) rfl ?_
          refine XS.iloadN X22.here hx rfl (hb hby d18_34) rfl ?_
          refine XS.iloadN X22.here hx rfl (hb hby d18_35) rfl ?_
          refine XS.icmpNo X22.here hx rfl (hb hby d18_36) rfl (flt (by decide)).1 ?_
          refine XS.lload X22.here hx rfl (hb hby d18_39) rfl ?_
          refine XS.aloadN X22.here hx rfl (hb hby d18_41) rfl rfl ?_
          refine XS.iloadN X22.here hx rfl (hb hby d18_42) rfl ?_
          refine X22.laload hx (j := (0 : Int32)) (v := (.long x1)) (by rw [e22]; exact Ar23.1) (State.isArrayOf_alike hZ.alike Ar23.2.1) Ar23.2.2 hin24 hat24 (g := (mkF m 43 #[.val (.ref a1), .val (.int (0 : Int32)), .val (.int (3 : Int32)), .val (.int (0 : Int32)), .val (.int (2 : Int32)), .val (.long x2), .second] [(.int (0 : Int32)), (.ref a1), (.long x2)])) rfl rfl (hb hby d18_43) _ ?_
          refine XS.lcmp X22.here hx rfl (hb hby d18_44) rfl ?_
          refine XS.ifYes X22.here hx rfl (pc0 := 45) (pc' := 59) rfl (hb hby d18_45) rfl ((if0 _ _).trans (flt (own_lcnlt hc45_3)).2.1) (by decide) (by decide) ?_
          refine XS.aloadN X22.here hx rfl (hb hby d18_59) rfl rfl ?_
          refine XS.iloadN X22.here hx rfl (hb hby d18_60) rfl ?_
          refine XS.iconst X22.here hx rfl (hb hby d18_61) ?_
          refine XS.iadd X22.here hx rfl (hb hby d18_62) rfl ?_
          refine XS.lload X22.here hx rfl (hb hby d18_63) rfl ?_
          refine st32 _ ?_
          refine XS.goto X32.here hx rfl (pc0 := 66) (pc' := 3) rfl (hb hby d18_66) (by decide) (by decide) ?_
          refine XS.iinc X32.here hx rfl (hb hby d18_3) rfl (l' := #[.val (.ref a1), .val (.int (0 : Int32)), .val (.int (3 : Int32)), .val (.int (0 : Int32)), .val (.int (3 : Int32)), .val (.long x2), .second]) rfl ?_
          refine XS.iload X32.here hx rfl (hb hby d18_6) rfl ?_
          refine XS.iloadN X32.here hx rfl (hb hby d18_8) rfl ?_
          refine XS.icmpYes X32.here hx rfl (pc0 := 9) (pc' := 69) rfl (hb hby d18_9) rfl (flt (by decide)).2.1 (by decide) (by decide) ?_
          show Steps p.tables e below (T32.setTop (mkF m 69 #[.val (.ref a1), .val (.int (0 : Int32)), .val (.int (3 : Int32)), .val (.int (0 : Int32)), .val (.int (3 : Int32)), .val (.long x2), .second] [])) _
          exact X32.returnOut hx Bd.returns (hb hby d18_69) hr
        · show Qrmi3 Z a1 k x0 x1 x2 h0 n0 _ T32.heap _
          rw [e32]
          exact ⟨rfl, N32, K32, x1, x2, x0, V32, ⟨hc45_3, (own_ltN hc28_2)⟩, (Or.inr (Or.inr (Or.inr (Or.inl ⟨rfl, rfl, rfl⟩))))⟩
    · obtain ⟨fs, hr, hrun, hended, hW, hsame⟩ := X12.leave (v := none) (fun _ => rfl) (BodyLoose.notSynchronized Bd)
      refine ⟨_, _, pre0 _ ?_, hrun, hended, _, _, rfl, ?_, ⟨_, rfl⟩, hW, hsame.mono (by decide) (by decide)⟩
      · show Steps p.tables e below (s₁.setTop (mkF m 0 #[.val (.ref a1), .val (.int (0 : Int32)), .val (.int (3 : Int32)), .unset, .unset, .unset, .unset] [])) _
        refine XS.iloadN X0.here hx rfl (hb hby d18_0) rfl ?_
        refine XS.istore X0.here hx rfl (hb hby d18_1) rfl (l' := #[.val (.ref a1), .val (.int (0 : Int32)), .val (.int (3 : Int32)), .unset, .val (.int (0 : Int32)), .unset, .unset]) rfl ?_
        refine XS.iinc X0.here hx rfl (hb hby d18_3) rfl (l' := #[.val (.ref a1), .val (.int (0 : Int32)), .val (.int (3 : Int32)), .unset, .val (.int (1 : Int32)), .unset, .unset]) rfl ?_
        refine XS.iload X0.here hx rfl (hb hby d18_6) rfl ?_
        refine XS.iloadN X0.here hx rfl (hb hby d18_8) rfl ?_
        refine XS.icmpNo X0.here hx rfl (hb hby d18_9) rfl (tlt (by decide)).2.1 ?_
        refine XS.aloadN X0.here hx rfl (hb hby d18_12) rfl rfl ?_
        refine XS.iload X0.here hx rfl (hb hby d18_13) rfl ?_
        refine XS.dup X0.here hx rfl (hb hby d18_15) rfl rfl ?_
        refine XS.istoreN X0.here hx rfl (hb hby d18_16) rfl (l' := #[.val (.ref a1), .val (.int (0 : Int32)), .val (.int (3 : Int32)), .val (.int (1 : Int32)), .val (.int (1 : Int32)), .unset, .unset]) rfl ?_
        refine X0.laload hx (j := (1 : Int32)) (v := (.long x1)) (by rw [e0]; exact Ar1.1) (State.isArrayOf_alike hZ.alike Ar1.2.1) Ar1.2.2 hin2 hat2 (g := (mkF m 17 #[.val (.ref a1), .val (.int (0 : Int32)), .val (.int (3 : Int32)), .val (.int (1 : Int32)), .val (.int (1 : Int32)), .unset, .unset] [(.int (1 : Int32)), (.ref a1)])) rfl rfl (hb hby d18_17) _ ?_
        refine XS.lstore X0.here hx rfl (hb hby d18_18) rfl (l' := #[.val (.ref a1), .val (.int (0 : Int32)), .val (.int (3 : Int32)), .val (.int (1 : Int32)), .val (.int (1 : Int32)), .val (.long x1), .second]) rfl ?_
        refine XS.lload X0.here hx rfl (hb hby d18_20) rfl ?_
        refine XS.aloadN X0.here hx rfl (hb hby d18_22) rfl rfl ?_
        refine XS.iloadN X0.here hx rfl (hb hby d18_23) rfl ?_
        refine XS.iconst X0.here hx rfl (hb hby d18_24) ?_
        refine XS.isub X0.here hx rfl (hb hby d18_25) rfl ?_
        refine X0.laload hx (j := (0 : Int32)) (v := (.long x0)) (by rw [e0]; exact Ar3.1) (State.isArrayOf_alike hZ.alike Ar3.2.1) Ar3.2.2 hin4 hat4 (g := (mkF m 26 #[.val (.ref a1), .val (.int (0 : Int32)), .val (.int (3 : Int32)), .val (.int (1 : Int32)), .val (.int (1 : Int32)), .val (.long x1), .second] [(.int (0 : Int32)), (.ref a1), (.long x1)])) rfl rfl (hb hby d18_26) _ ?_
        refine XS.lcmp X0.here hx rfl (hb hby d18_27) rfl ?_
        refine XS.ifNo X0.here hx rfl (hb hby d18_28) rfl ((if0 _ _).trans (tlt (own_lclt hc28)).2.1) ?_
        refine XS.iinc X0.here hx rfl (hb hby d18_31) rfl (l' := #[.val (.ref a1), .val (.int (0 : Int32)), .val (.int (3 : Int32)), .val (.int (0 : Int32)), .val (.int (1 : Int32)), .val (.long x1), .second]) rfl ?_
        refine XS.iloadN X0.here hx rfl (hb hby d18_34) rfl ?_
        refine XS.iloadN X0.here hx rfl (hb hby d18_35) rfl ?_
        refine XS.icmpNo X0.here hx rfl (hb hby d18_36) rfl (flt (by decide)).1 ?_
        refine XS.lload X0.here hx rfl (hb hby d18_39) rfl ?_
        refine XS.aloadN X0.here hx rfl (hb hby d18_41) rfl rfl ?_
        refine XS.iloadN X0.here hx rfl (hb hby d18_42) rfl ?_
        refine X0.laload hx (j := (0 : Int32)) (v := (.long x0)) (by rw [e0]; exact Ar5.1) (State.isArrayOf_alike hZ.alike Ar5.2.1) Ar5.2.2 hin6 hat6 (g := (mkF m 43 #[.val (.ref a1), .val (.int (0 : Int32)), .val (.int (3 : Int32)), .val (.int (0 : Int32)), .val (.int (1 : Int32)), .val (.long x1), .second] [(.int (0 : Int32)), (.ref a1), (.long x1)])) rfl rfl (hb hby d18_43) _ ?_
        refine XS.lcmp X0.here hx rfl (hb hby d18_44) rfl ?_
        refine XS.ifNo X0.here hx rfl (hb hby d18_45) rfl ((if0 _ _).trans (tlt (own_lclt hc28)).2.1) ?_
        refine XS.aloadN X0.here hx rfl (hb hby d18_48) rfl rfl ?_
        refine XS.iloadN X0.here hx rfl (hb hby d18_49) rfl ?_
        refine XS.iconst X0.here hx rfl (hb hby d18_50) ?_
        refine XS.iadd X0.here hx rfl (hb hby d18_51) rfl ?_
        refine XS.aloadN X0.here hx rfl (hb hby d18_52) rfl rfl ?_
        refine XS.iloadN X0.here hx rfl (hb hby d18_53) rfl ?_
        refine X0.laload hx (j := (0 : Int32)) (v := (.long x0)) (by rw [e0]; exact Ar7.1) (State.isArrayOf_alike hZ.alike Ar7.2.1) Ar7.2.2 hin8 hat8 (g := (mkF m 54 #[.val (.ref a1), .val (.int (0 : Int32)), .val (.int (3 : Int32)), .val (.int (0 : Int32)), .val (.int (1 : Int32)), .val (.long x1), .second] [(.int (0 : Int32)), (.ref a1), (.int (1 : Int32)), (.ref a1)])) rfl rfl (hb hby d18_54) _ ?_
        refine st10 _ ?_
        refine XS.goto X10.here hx rfl (pc0 := 56) (pc' := 31) rfl (hb hby d18_56) (by decide) (by decide) ?_
        refine XS.iinc X10.here hx rfl (hb hby d18_31) rfl (l' := #[.val (.ref a1), .val (.int (0 : Int32)), .val (.int (3 : Int32)), .val (.int (-1 : Int32)), .val (.int (1 : Int32)), .val (.long x1), .second]) rfl ?_
        show Steps p.tables e below (T10.setTop (mkF m 34 #[.val (.ref a1), .val (.int (0 : Int32)), .val (.int (3 : Int32)), .val (.int (-1 : Int32)), .val (.int (1 : Int32)), .val (.long x1), .second] [])) _
        refine XS.iloadN X10.here hx rfl (hb hby d18_34) rfl ?_
        refine XS.iloadN X10.here hx rfl (hb hby d18_35) rfl ?_
        refine XS.icmpYes X10.here hx rfl (pc0 := 36) (pc' := 59) rfl (hb hby d18_36) rfl (tlt (by decide)).1 (by decide) (by decide) ?_
        refine XS.aloadN X10.here hx rfl (hb hby d18_59) rfl rfl ?_
        refine XS.iloadN X10.here hx rfl (hb hby d18_60) rfl ?_
        refine XS.iconst X10.here hx rfl (hb hby d18_61) ?_
        refine XS.iadd X10.here hx rfl (hb hby d18_62) rfl ?_
        refine XS.lload X10.here hx rfl (hb hby d18_63) rfl ?_
        refine st12 _ ?_
        refine XS.goto X12.here hx rfl (pc0 := 66) (pc' := 3) rfl (hb hby d18_66) (by decide) (by decide) ?_
        refine XS.iinc X12.here hx rfl (hb hby d18_3) rfl (l' := #[.val (.ref a1), .val (.int (0 : Int32)), .val (.int (3 : Int32)), .val (.int (-1 : Int32)), .val (.int (2 : Int32)), .val (.long x1), .second]) rfl ?_
        refine XS.iload X12.here hx rfl (hb hby d18_6) rfl ?_
        refine XS.iloadN X12.here hx rfl (hb hby d18_8) rfl ?_
        refine XS.icmpNo X12.here hx rfl (hb hby d18_9) rfl (tlt (by decide)).2.1 ?_
        refine XS.aloadN X12.here hx rfl (hb hby d18_12) rfl rfl ?_
        refine XS.iload X12.here hx rfl (hb hby d18_13) rfl ?_
        refine XS.dup X12.here hx rfl (hb hby d18_15) rfl rfl ?_
        refine XS.istoreN X12.here hx rfl (hb hby d18_16) rfl (l' := #[.val (.ref a1), .val (.int (0 : Int32)), .val (.int (3 : Int32)), .val (.int (2 : Int32)), .val (.int (2 : Int32)), .val (.long x1), .second]) rfl ?_
        refine X12.laload hx (j := (2 : Int32)) (v := (.long x2)) (by rw [e12]; exact Ar13.1) (State.isArrayOf_alike hZ.alike Ar13.2.1) Ar13.2.2 hin14 hat14 (g := (mkF m 17 #[.val (.ref a1), .val (.int (0 : Int32)), .val (.int (3 : Int32)), .val (.int (2 : Int32)), .val (.int (2 : Int32)), .val (.long x1), .second] [(.int (2 : Int32)), (.ref a1)])) rfl rfl (hb hby d18_17) _ ?_
        refine XS.lstore X12.here hx rfl (hb hby d18_18) rfl (l' := #[.val (.ref a1), .val (.int (0 : Int32)), .val (.int (3 : Int32)), .val (.int (2 : Int32)), .val (.int (2 : Int32)), .val (.long x2), .second]) rfl ?_
        refine XS.lload X12.here hx rfl (hb hby d18_20) rfl ?_
        refine XS.aloadN X12.here hx rfl (hb hby d18_22) rfl rfl ?_
        refine XS.iloadN X12.here hx rfl (hb hby d18_23) rfl ?_
        refine XS.iconst X12.here hx rfl (hb hby d18_24) ?_
        refine XS.isub X12.here hx rfl (hb hby d18_25) rfl ?_
        refine X12.laload hx (j := (1 : Int32)) (v := (.long x0)) (by rw [e12]; exact Ar15.1) (State.isArrayOf_alike hZ.alike Ar15.2.1) Ar15.2.2 hin16 hat16 (g := (mkF m 26 #[.val (.ref a1), .val (.int (0 : Int32)), .val (.int (3 : Int32)), .val (.int (2 : Int32)), .val (.int (2 : Int32)), .val (.long x2), .second] [(.int (1 : Int32)), (.ref a1), (.long x2)])) rfl rfl (hb hby d18_26) _ ?_
        refine XS.lcmp X12.here hx rfl (hb hby d18_27) rfl ?_
        refine XS.ifYes X12.here hx rfl (pc0 := 28) (pc' := 66) rfl (hb hby d18_28) rfl ((if0 _ _).trans (flt (own_lcnlt hc28_2)).2.1) (by decide) (by decide) ?_
        refine XS.goto X12.here hx rfl (pc0 := 66) (pc' := 3) rfl (hb hby d18_66) (by decide) (by decide) ?_
        refine XS.iinc X12.here hx rfl (hb hby d18_3) rfl (l' := #[.val (.ref a1), .val (.int (0 : Int32)), .val (.int (3 : Int32)), .val (.int (2 : Int32)), .val (.int (3 : Int32)), .val (.long x2), .second]) rfl ?_
        refine XS.iload X12.here hx rfl (hb hby d18_6) rfl ?_
        refine XS.iloadN X12.here hx rfl (hb hby d18_8) rfl ?_
        refine XS.icmpYes X12.here hx rfl (pc0 := 9) (pc' := 69) rfl (hb hby d18_9) rfl (flt (by decide)).2.1 (by decide) (by decide) ?_
        show Steps p.tables e below (T12.setTop (mkF m 69 #[.val (.ref a1), .val (.int (0 : Int32)), .val (.int (3 : Int32)), .val (.int (2 : Int32)), .val (.int (3 : Int32)), .val (.long x2), .second] [])) _
        exact X12.returnOut hx Bd.returns (hb hby d18_69) hr
      · show Qrmi3 Z a1 k x0 x1 x2 h0 n0 _ T12.heap _
        rw [e12]
        exact ⟨rfl, N12, K12, x1, x0, x2, V12, ⟨(own_ltN hc28), hc28_2⟩, (Or.inr (Or.inr (Or.inl ⟨rfl, rfl, rfl⟩)))⟩
  · obtain ⟨cl33, Ar33, qk33, Sz33, Nn33, Hh33, Gg33⟩ := id (A)
    have hin34 : ¬ ((2 : Int32) < 0 ∨ cl33.slots.size ≤ ((2 : Int32)).toNatClampNeg) := inb_of Sz33 ⟨by decide, by decide⟩
    have hat34 : cl33.slots[((2 : Int32)).toNatClampNeg]? = some (.long x2) := Has.at Hh33 hin34 rfl
    obtain ⟨cl35, Ar35, qk35, Sz35, Nn35, Hh35, Gg35⟩ := id (A)
    have hin36 : ¬ ((1 : Int32) < 0 ∨ cl35.slots.size ≤ ((1 : Int32)).toNatClampNeg) := inb_of Sz35 ⟨by decide, by decide⟩
    have hat36 : cl35.slots[((1 : Int32)).toNatClampNeg]? = some (.long x1) := Has.at Hh35 hin36 rfl
    by_cases hc28_2 : x2 < x1
    · obtain ⟨cl37, Ar37, qk37, Sz37, Nn37, Hh37, Gg37⟩ := id (A)
      have hin38 : ¬ ((1 : Int32) < 0 ∨ cl37.slots.size ≤ ((1 : Int32)).toNatClampNeg) := inb_of Sz37 ⟨by decide, by decide⟩
      have hat38 : cl37.slots[((1 : Int32)).toNatClampNeg]? = some (.long x1) := Has.at Hh37 hin38 rfl
      obtain ⟨cl39, Ar39, qk39, Sz39, Nn39, Hh39, Gg39⟩ := id (A)
      have hin40 : ¬ ((1 : Int32) < 0 ∨ cl39.slots.size ≤ ((1 : Int32)).toNatClampNeg) := inb_of Sz39 ⟨by decide, by decide⟩
      have hat40 : cl39.slots[((1 : Int32)).toNatClampNeg]? = some (.long x1) := Has.at Hh39 hin40 rfl
      obtain ⟨cl41, Ar41, qk41, Sz41, Nn41, Hh41, Gg41⟩ := id (A)
      have hin42 : ¬ ((2 : Int32) < 0 ∨ cl41.slots.size ≤ ((2 : Int32)).toNatClampNeg) := inb_of Sz41 ⟨by decide, by decide⟩
      obtain ⟨T42, h42, X42, e42, W42, st42⟩ := stJ X0 hx hZ e0 Ar41 (j := (2 : Int32)) hin42  (g := (mkF m 55 #[.val (.ref a1), .val (.int (0 : Int32)), .val (.int (3 : Int32)), .val (.int (1 : Int32)), .val (.int (2 : Int32)), .val (.long x2), .second] [(.long x1), (.int (2 : Int32)), (.ref a1)])) rfl rfl (hb hby d18_55)
      have N42 := Fr.snoc X42 N0 ga
      have Z42 : n0 ≤ h42.size := by rw [W42.size]; exact Z0
      have K42 : Keep h0 h42 [a1] := (Keep.refl h0 [a1]).wr W42 (Or.inl (own_w 0 rfl))
      have V42 : Arv Z h42 a1 k .long (3 : Int32) [(.long x0), (.long x1), (.long x1)] (.long (0 : Int64)) := Arv.set Ar41 qk41 Sz41 Nn41 Hh41 Gg41 rfl W42 2 rfl (Nat.le_of_ble_eq_true rfl)
      obtain ⟨cl43, Ar43, qk43, Sz43, Nn43, Hh43, Gg43⟩ := id (V42)
      have hin44 : ¬ ((0 : Int32) < 0 ∨ cl43.slots.size ≤ ((0 : Int32)).toNatClampNeg) := inb_of Sz43 ⟨by decide, by decide⟩
      have hat44 : cl43.slots[((0 : Int32)).toNatClampNeg]? = some (.long x0) := Has.at Hh43 hin44 rfl
      by_cases hc45_2 : x2 < x0
      · obtain ⟨cl45, Ar45, qk45, Sz45, Nn45, Hh45, Gg45⟩ := id (V42)
        have hin46 : ¬ ((0 : Int32) < 0 ∨ cl45.slots.size ≤ ((0 : Int32)).toNatClampNeg) := inb_of Sz45 ⟨by decide, by decide⟩
        have hat46 : cl45.slots[((0 : Int32)).toNatClampNeg]? = some (.long x0) := Has.at Hh45 hin46 rfl
        obtain ⟨cl47, Ar47, qk47, Sz47, Nn47, Hh47, Gg47⟩ := id (V42)
        have hin48 : ¬ ((1 : Int32) < 0 ∨ cl47.slots.size ≤ ((1 : Int32)).toNatClampNeg) := inb_of Sz47 ⟨by decide, by decide⟩
        obtain ⟨T48, h48, X48, e48, W48, st48⟩ := stJ X42 hx hZ e42 Ar47 (j := (1 : Int32)) hin48  (g := (mkF m 55 #[.val (.ref a1), .val (.int (0 : Int32)), .val (.int (3 : Int32)), .val (.int (0 : Int32)), .val (.int (2 : Int32)), .val (.long x2), .second] [(.long x0), (.int (1 : Int32)), (.ref a1)])) rfl rfl (hb hby d18_55)
        have N48 := Fr.snoc X48 N42 ga
        have Z48 : n0 ≤ h48.size := by rw [W48.size]; exact Z42
        have K48 : Keep h0 h48 [a1] := K42.wr W48 (Or.inl (own_w 0 rfl))
        have V48 : Arv Z h48 a1 k .long (3 : Int32) [(.long x0), (.long x0), (.long x1)] (.long (0 : Int64)) := Arv.set Ar47 qk47 Sz47 Nn47 Hh47 Gg47 rfl W48 1 rfl (Nat.le_of_ble_eq_true rfl)
        obtain ⟨cl49, Ar49, qk49, Sz49, Nn49, Hh49, Gg49⟩ := id (V48)
        have hin50 : ¬ ((0 : Int32) < 0 ∨ cl49.slots.size ≤ ((0 : Int32)).toNatClampNeg) := inb_of Sz49 ⟨by decide, by decide⟩
        obtain ⟨T50, h50, X50, e50, W50, st50⟩ := stJ X48 hx hZ e48 Ar49 (j := (0 : Int32)) hin50  (g := (mkF m 65 #[.val (.ref a1), .val (.int (0 : Int32)), .val (.int (3 : Int32)), .val (.int (-1 : Int32)), .val (.int (2 : Int32)), .val (.long x2), .second] [(.long x2), (.int (0 : Int32)), (.ref a1)])) rfl rfl (hb hby d18_65)
        have N50 := Fr.snoc X50 N48 ga
        have Z50 : n0 ≤ h50.size := by rw [W50.size]; exact Z48
        have K50 : Keep h0 h50 [a1] := K48.wr W50 (Or.inl (own_w 0 rfl))
        have V50 : Arv Z h50 a1 k .long (3 : Int32) [(.long x2), (.long x0), (.long x1)] (.long (0 : Int64)) := Arv.set Ar49 qk49 Sz49 Nn49 Hh49 Gg49 rfl W50 0 rfl (Nat.le_of_ble_eq_true rfl)
        obtain ⟨fs, hr, hrun, hended, hW, hsame⟩ := X50.leave (v := none) (fun _ => rfl) (BodyLoose.notSynchronized Bd)
        refine ⟨_, _, pre0 _ ?_, hrun, hended, _, _, rfl, ?_, ⟨_, rfl⟩, hW, hsame.mono (by decide) (by decide)⟩
        · show Steps p.tables e below (s₁.setTop (mkF m 0 #[.val (.ref a1), .val (.int (0 : Int32)), .val (.int (3 : Int32)), .unset, .unset, .unset, .unset] [])) _
          refine XS.iloadN X0.here hx rfl (hb hby d18_0) rfl ?_
          refine XS.istore X0.here hx rfl (hb hby d18_1) rfl (l' := #[.val (.ref a1), .val (.int (0 : Int32)), .val (.int (3 : Int32)), .unset, .val (.int (0 : Int32)), .unset, .unset]) rfl ?_
          refine XS.iinc X0.here hx rfl (hb hby d18_3) rfl (l' := #[.val (.ref a1), .val (.int (0 : Int32)), .val (.int (3 : Int32)), .unset, .val (.int (1 : Int32)), .unset, .unset]) rfl ?_
          refine XS.iload X0.here hx rfl (hb hby d18_6) rfl ?_
          refine XS.iloadN X0.here hx rfl (hb hby d18_8) rfl ?_
          refine XS.icmpNo X0.here hx rfl (hb hby d18_9) rfl (tlt (by decide)).2.1 ?_
          refine XS.aloadN X0.here hx rfl (hb hby d18_12) rfl rfl ?_
          refine XS.iload X0.here hx rfl (hb hby d18_13) rfl ?_
          refine XS.dup X0.here hx rfl (hb hby d18_15) rfl rfl ?_
          refine XS.istoreN X0.here hx rfl (hb hby d18_16) rfl (l' := #[.val (.ref a1), .val (.int (0 : Int32)), .val (.int (3 : Int32)), .val (.int (1 : Int32)), .val (.int (1 : Int32)), .unset, .unset]) rfl ?_
          refine X0.laload hx (j := (1 : Int32)) (v := (.long x1)) (by rw [e0]; exact Ar1.1) (State.isArrayOf_alike hZ.alike Ar1.2.1) Ar1.2.2 hin2 hat2 (g := (mkF m 17 #[.val (.ref a1), .val (.int (0 : Int32)), .val (.int (3 : Int32)), .val (.int (1 : Int32)), .val (.int (1 : Int32)), .unset, .unset] [(.int (1 : Int32)), (.ref a1)])) rfl rfl (hb hby d18_17) _ ?_
          refine XS.lstore X0.here hx rfl (hb hby d18_18) rfl (l' := #[.val (.ref a1), .val (.int (0 : Int32)), .val (.int (3 : Int32)), .val (.int (1 : Int32)), .val (.int (1 : Int32)), .val (.long x1), .second]) rfl ?_
          refine XS.lload X0.here hx rfl (hb hby d18_20) rfl ?_
          refine XS.aloadN X0.here hx rfl (hb hby d18_22) rfl rfl ?_
          refine XS.iloadN X0.here hx rfl (hb hby d18_23) rfl ?_
          refine XS.iconst X0.here hx rfl (hb hby d18_24) ?_
          refine XS.isub X0.here hx rfl (hb hby d18_25) rfl ?_
          refine X0.laload hx (j := (0 : Int32)) (v := (.long x0)) (by rw [e0]; exact Ar3.1) (State.isArrayOf_alike hZ.alike Ar3.2.1) Ar3.2.2 hin4 hat4 (g := (mkF m 26 #[.val (.ref a1), .val (.int (0 : Int32)), .val (.int (3 : Int32)), .val (.int (1 : Int32)), .val (.int (1 : Int32)), .val (.long x1), .second] [(.int (0 : Int32)), (.ref a1), (.long x1)])) rfl rfl (hb hby d18_26) _ ?_
          refine XS.lcmp X0.here hx rfl (hb hby d18_27) rfl ?_
          refine XS.ifYes X0.here hx rfl (pc0 := 28) (pc' := 66) rfl (hb hby d18_28) rfl ((if0 _ _).trans (flt (own_lcnlt hc28)).2.1) (by decide) (by decide) ?_
          refine XS.goto X0.here hx rfl (pc0 := 66) (pc' := 3) rfl (hb hby d18_66) (by decide) (by decide) ?_
          refine XS.iinc X0.here hx rfl (hb hby d18_3) rfl (l' := #[.val (.ref a1), .val (.int (0 : Int32)), .val (.int (3 : Int32)), .val (.int (1 : Int32)), .val (.int (2 : Int32)), .val (.long x1), .second]) rfl ?_
          refine XS.iload X0.here hx rfl (hb hby d18_6) rfl ?_
          refine XS.iloadN X0.here hx rfl (hb hby d18_8) rfl ?_
          refine XS.icmpNo X0.here hx rfl (hb hby d18_9) rfl (tlt (by decide)).2.1 ?_
          refine XS.aloadN X0.here hx rfl (hb hby d18_12) rfl rfl ?_
          refine XS.iload X0.here hx rfl (hb hby d18_13) rfl ?_
          refine XS.dup X0.here hx rfl (hb hby d18_15) rfl rfl ?_
          refine XS.istoreN X0.here hx rfl (hb hby d18_16) rfl (l' := #[.val (.ref a1), .val (.int (0 : Int32)), .val (.int (3 : Int32)), .val (.int (2 : Int32)), .val (.int (2 : Int32)), .val (.long x1), .second]) rfl ?_
          refine X0.laload hx (j := (2 : Int32)) (v := (.long x2)) (by rw [e0]; exact Ar33.1) (State.isArrayOf_alike hZ.alike Ar33.2.1) Ar33.2.2 hin34 hat34 (g := (mkF m 17 #[.val (.ref a1), .val (.int (0 : Int32)), .val (.int (3 : Int32)), .val (.int (2 : Int32)), .val (.int (2 : Int32)), .val (.long x1), .second] [(.int (2 : Int32)), (.ref a1)])) rfl rfl (hb hby d18_17) _ ?_
          refine XS.lstore X0.here hx rfl (hb hby d18_18) rfl (l' := #[.val (.ref a1), .val (.int (0 : Int32)), .val (.int (3 : Int32)), .val (.int (2 : Int32)), .val (.int (2 : Int32)), .val (.long x2), .second]) rfl ?_
          refine XS.lload X0.here hx rfl (hb hby d18_20) rfl ?_
          refine XS.aloadN X0.here hx rfl (hb hby d18_22) rfl rfl ?_
          refine XS.iloadN X0.here hx rfl (hb hby d18_23) rfl ?_
          refine XS.iconst X0.here hx rfl (hb hby d18_24) ?_
          refine XS.isub X0.here hx rfl (hb hby d18_25) rfl ?_
          refine X0.laload hx (j := (1 : Int32)) (v := (.long x1)) (by rw [e0]; exact Ar35.1) (State.isArrayOf_alike hZ.alike Ar35.2.1) Ar35.2.2 hin36 hat36 (g := (mkF m 26 #[.val (.ref a1), .val (.int (0 : Int32)), .val (.int (3 : Int32)), .val (.int (2 : Int32)), .val (.int (2 : Int32)), .val (.long x2), .second] [(.int (1 : Int32)), (.ref a1), (.long x2)])) rfl rfl (hb hby d18_26) _ ?_
          refine XS.lcmp X0.here hx rfl (hb hby d18_27) rfl ?_
          refine XS.ifNo X0.here hx rfl (hb hby d18_28) rfl ((if0 _ _).trans (tlt (own_lclt hc28_2)).2.1) ?_
          refine XS.iinc X0.here hx rfl (hb hby d18_31) rfl (l' := #[.val (.ref a1), .val (.int (0 : Int32)), .val (.int (3 : Int32)), .val (.int (1 : Int32)), .val (.int (2 : Int32)), .val (.long x2), .second]) rfl ?_
          show Steps p.tables e below (s₁.setTop (mkF m 34 #[.val (.ref a1), .val (.int (0 : Int32)), .val (.int (3 : Int32)), .val (.int (1 : Int32)), .val (.int (2 : Int32)), .val (.long x2), .second] [])) _
          refine XS.iloadN X0.here hx rfl (hb hby d18_34) rfl ?_
          refine XS.iloadN X0.here hx rfl (hb hby d18_35) rfl ?_
          refine XS.icmpNo X0.here hx rfl (hb hby d18_36) rfl (flt (by decide)).1 ?_
          refine XS.lload X0.here hx rfl (hb hby d18_39) rfl ?_
          refine XS.aloadN X0.here hx rfl (hb hby d18_41) rfl rfl ?_
          refine XS.iloadN X0.here hx rfl (hb hby d18_42) rfl ?_
          refine X0.laload hx (j := (1 : Int32)) (v := (.long x1)) (by rw [e0]; exact Ar37.1) (State.isArrayOf_alike hZ.alike Ar37.2.1) Ar37.2.2 hin38 hat38 (g := (mkF m 43 #[.val (.ref a1), .val (.int (0 : Int32)), .val (.int (3 : Int32)), .val (.int (1 : Int32)), .val (.int (2 : Int32)), .val (.long x2), .second] [(.int (1 : Int32)), (.ref a1), (.long x2)])) rfl rfl (hb hby d18_43) _ ?_
          refine XS.lcmp X0.here hx rfl (hb hby d18_44) rfl ?_
          refine XS.ifNo X0.here hx rfl (hb hby d18_45) rfl ((if0 _ _).trans (tlt (own_lclt hc28_2)).2.1) ?_
          refine XS.aloadN X0.here hx rfl (hb hby d18_48) rfl rfl ?_
          refine XS.iloadN X0.here hx rfl (hb hby d18_49) rfl ?_
          refine XS.iconst X0.here hx rfl (hb hby d18_50) ?_
          refine XS.iadd X0.here hx rfl (hb hby d18_51) rfl ?_
          refine XS.aloadN X0.here hx rfl (hb hby d18_52) rfl rfl ?_
          refine XS.iloadN X0.here hx rfl (hb hby d18_53) rfl ?_
          refine X0.laload hx (j := (1 : Int32)) (v := (.long x1)) (by rw [e0]; exact Ar39.1) (State.isArrayOf_alike hZ.alike Ar39.2.1) Ar39.2.2 hin40 hat40 (g := (mkF m 54 #[.val (.ref a1), .val (.int (0 : Int32)), .val (.int (3 : Int32)), .val (.int (1 : Int32)), .val (.int (2 : Int32)), .val (.long x2), .second] [(.int (1 : Int32)), (.ref a1), (.int (2 : Int32)), (.ref a1)])) rfl rfl (hb hby d18_54) _ ?_
          refine st42 _ ?_
          refine XS.goto X42.here hx rfl (pc0 := 56) (pc' := 31) rfl (hb hby d18_56) (by decide) (by decide) ?_
          refine XS.iinc X42.here hx rfl (hb hby d18_31) rfl (l' := #[.val (.ref a1), .val (.int (0 : Int32)), .val (.int (3 : Int32)), .val (.int (0 : Int32)), .val (.int (2 : Int32)), .val (.long x2), .second]) rfl ?_
          refine XS.iloadN X42.here hx rfl (hb hby d18_34) rfl ?_
          refine XS.iloadN X42.here hx rfl (hb hby d18_35) rfl ?_
          refine XS.icmpNo X42.here hx rfl (hb hby d18_36) rfl (flt (by decide)).1 ?_
          refine XS.lload X42.here hx rfl (hb hby d18_39) rfl ?_
          refine XS.aloadN X42.here hx rfl (hb hby d18_41) rfl rfl ?_
          refine XS.iloadN X42.here hx rfl (hb hby d18_42) rfl ?_
          refine X42.laload hx (j := (0 : Int32)) (v := (.long x0)) (by rw [e42]; exact Ar43.1) (State.isArrayOf_alike hZ.alike Ar43.2.1) Ar43.2.2 hin44 hat44 (g := (mkF m 43 #[.val (.ref a1), .val (.int (0 : Int32)), .val (.int (3 : Int32)), .val (.int (0 : Int32)), .val (.int (2 : Int32)), .val (.long x2), .second] [(.int (0 : Int32)), (.ref a1), (.long x2)])) rfl rfl (hb hby d18_43) _ ?_
          refine XS.lcmp X42.here hx rfl (hb hby d18_44) rfl ?_
          refine XS.ifNo X42.here hx rfl (hb hby d18_45) rfl ((if0 _ _).trans (tlt (own_lclt hc45_2)).2.1) ?_
          refine XS.aloadN X42.here hx rfl (hb hby d18_48) rfl rfl ?_
          refine XS.iloadN X42.here hx rfl (hb hby d18_49) rfl ?_
          refine XS.iconst X42.here hx rfl (hb hby d18_50) ?_
          refine XS.iadd X42.here hx rfl (hb hby d18_51) rfl ?_
          refine XS.aloadN X42.here hx rfl (hb hby d18_52) rfl rfl ?_
          refine XS.iloadN X42.here hx rfl (hb hby d18_53) rfl ?_
          refine X42.laload hx (j := (0 : Int32)) (v := (.long x0)) (by rw [e42]; exact Ar45.1) (State.isArrayOf_alike hZ.alike Ar45.2.1) Ar45.2.2 hin46 hat46 (g := (mkF m 54 #[.val (.ref a1), .val (.int (0 : Int32)), .val (.int (3 : Int32)), .val (.int (0 : Int32)), .val (.int (2 : Int32)), .val (.long x2), .second] [(.int (0 : Int32)), (.ref a1), (.int (1 : Int32)), (.ref a1)])) rfl rfl (hb hby d18_54) _ ?_
          refine st48 _ ?_
          refine XS.goto X48.here hx rfl (pc0 := 56) (pc' := 31) rfl (hb hby d18_56) (by decide) (by decide) ?_
          refine XS.iinc X48.here hx rfl (hb hby d18_31) rfl (l' := #[.val (.ref a1), .val (.int (0 : Int32)), .val (.int (3 : Int32)), .val (.int (-1 : Int32)), .val (.int (2 : Int32)), .val (.long x2), .second]) rfl ?_
          refine XS.iloadN X48.here hx rfl (hb hby d18_34) rfl ?_
          refine XS.iloadN X48.here hx rfl (hb hby d18_35) rfl ?_
          show Steps p.tables e below (T48.setTop (mkF m 36 #[.val (.ref a1), .val (.int (0 : Int32)), .val (.int (3 : Int32)), .val (.int (-1 : Int32)), .val (.int (2 : Int32)), .val (.long x2), .second] [(.int (0 : Int32)), (.int (-1 : Int32))])) _
          refine XS.icmpYes X48.here hx rfl (pc0 := 36) (pc' := 59) rfl (hb hby d18_36) rfl (tlt (by decide)).1 (by decide) (by decide) ?_
          refine XS.aloadN X48.here hx rfl (hb hby d18_59) rfl rfl ?_
          refine XS.iloadN X48.here hx rfl (hb hby d18_60) rfl ?_
          refine XS.iconst X48.here hx rfl (hb hby d18_61) ?_
          refine XS.iadd X48.here hx rfl (hb hby d18_62) rfl ?_
          refine XS.lload X48.here hx rfl (hb hby d18_63) rfl ?_
          refine st50 _ ?_
          refine XS.goto X50.here hx rfl (pc0 := 66) (pc' := 3) rfl (hb hby d18_66) (by decide) (by decide) ?_
          refine XS.iinc X50.here hx rfl (hb hby d18_3) rfl (l' := #[.val (.ref a1), .val (.int (0 : Int32)), .val (.int (3 : Int32)), .val (.int (-1 : Int32)), .val (.int (3 : Int32)), .val (.long x2), .second]) rfl ?_
          refine XS.iload X50.here hx rfl (hb hby d18_6) rfl ?_
          refine XS.iloadN X50.here hx rfl (hb hby d18_8) rfl ?_
          refine XS.icmpYes X50.here hx rfl (pc0 := 9) (pc' := 69) rfl (hb hby d18_9) rfl (flt (by decide)).2.1 (by decide) (by decide) ?_
          show Steps p.tables e below (T50.setTop (mkF m 69 #[.val (.ref a1), .val (.int (0 : Int32)), .val (.int (3 : Int32)), .val (.int (-1 : Int32)), .val (.int (3 : Int32)), .val (.long x2), .second] [])) _
          exact X50.returnOut hx Bd.returns (hb hby d18_69) hr
        · show Qrmi3 Z a1 k x0 x1 x2 h0 n0 _ T50.heap _
          rw [e50]
          exact ⟨rfl, N50, K50, x2, x0, x1, V50, ⟨(own_ltN hc45_2), hc28⟩, (Or.inr (Or.inr (Or.inr (Or.inr (Or.inl ⟨rfl, rfl, rfl⟩)))))⟩
      · obtain ⟨cl51, Ar51, qk51, Sz51, Nn51, Hh51, Gg51⟩ := id (V42)
        have hin52 : ¬ ((1 : Int32) < 0 ∨ cl51.slots.size ≤ ((1 : Int32)).toNatClampNeg) := inb_of Sz51 ⟨by decide, by decide⟩
        obtain ⟨T52, h52, X52, e52, W52, st52⟩ := stJ X42 hx hZ e42 Ar51 (j := (1 : Int32)) hin52  (g := (mkF m 65 #[.val (.ref a1), .val (.int (0 : Int32)), .val (.int (3 : Int32)), .val (.int (0 : Int32)), .val (.int (2 : Int32)), .val (.long x2), .second] [(.long x2), (.int (1 : Int32)), (.ref a1)])) rfl rfl (hb hby d18_65)
        have N52 := Fr.snoc X52 N42 ga
        have Z52 : n0 ≤ h52.size := by rw [W52.size]; exact Z42
        have K52 : Keep h0 h52 [a1] := K42.wr W52 (Or.inl (own_w 0 rfl))
        have V52 : Arv Z h52 a1 k .long (3 : Int32) [(.long x0), (.long x2), (.long x1)] (.long (0 : Int64)) := Arv.set Ar51 qk51 Sz51 Nn51 Hh51 Gg51 rfl W52 1 rfl (Nat.le_of_ble_eq_true rfl)
        obtain ⟨fs, hr, hrun, hended, hW, hsame⟩ := X52.leave (v := none) (fun _ => rfl) (BodyLoose.notSynchronized Bd)
        refine ⟨_, _, pre0 _ ?_, hrun, hended, _, _, rfl, ?_, ⟨_, rfl⟩, hW, hsame.mono (by decide) (by decide)⟩
        · show Steps p.tables e below (s₁.setTop (mkF m 0 #[.val (.ref a1), .val (.int (0 : Int32)), .val (.int (3 : Int32)), .unset, .unset, .unset, .unset] [])) _
          refine XS.iloadN X0.here hx rfl (hb hby d18_0) rfl ?_
          refine XS.istore X0.here hx rfl (hb hby d18_1) rfl (l' := #[.val (.ref a1), .val (.int (0 : Int32)), .val (.int (3 : Int32)), .unset, .val (.int (0 : Int32)), .unset, .unset]) rfl ?_
          refine XS.iinc X0.here hx rfl (hb hby d18_3) rfl (l' := #[.val (.ref a1), .val (.int (0 : Int32)), .val (.int (3 : Int32)), .unset, .val (.int (1 : Int32)), .unset, .unset]) rfl ?_
          refine XS.iload X0.here hx rfl (hb hby d18_6) rfl ?_
          refine XS.iloadN X0.here hx rfl (hb hby d18_8) rfl ?_
          refine XS.icmpNo X0.here hx rfl (hb hby d18_9) rfl (tlt (by decide)).2.1 ?_
          refine XS.aloadN X0.here hx rfl (hb hby d18_12) rfl rfl ?_
          refine XS.iload X0.here hx rfl (hb hby d18_13) rfl ?_
          refine XS.dup X0.here hx rfl (hb hby d18_15) rfl rfl ?_
          refine XS.istoreN X0.here hx rfl (hb hby d18_16) rfl (l' := #[.val (.ref a1), .val (.int (0 : Int32)), .val (.int (3 : Int32)), .val (.int (1 : Int32)), .val (.int (1 : Int32)), .unset, .unset]) rfl ?_
          refine X0.laload hx (j := (1 : Int32)) (v := (.long x1)) (by rw [e0]; exact Ar1.1) (State.isArrayOf_alike hZ.alike Ar1.2.1) Ar1.2.2 hin2 hat2 (g := (mkF m 17 #[.val (.ref a1), .val (.int (0 : Int32)), .val (.int (3 : Int32)), .val (.int (1 : Int32)), .val (.int (1 : Int32)), .unset, .unset] [(.int (1 : Int32)), (.ref a1)])) rfl rfl (hb hby d18_17) _ ?_
          refine XS.lstore X0.here hx rfl (hb hby d18_18) rfl (l' := #[.val (.ref a1), .val (.int (0 : Int32)), .val (.int (3 : Int32)), .val (.int (1 : Int32)), .val (.int (1 : Int32)), .val (.long x1), .second]) rfl ?_
          refine XS.lload X0.here hx rfl (hb hby d18_20) rfl ?_
          refine XS.aloadN X0.here hx rfl (hb hby d18_22) rfl rfl ?_
          refine XS.iloadN X0.here hx rfl (hb hby d18_23) rfl ?_
          refine XS.iconst X0.here hx rfl (hb hby d18_24) ?_
          refine XS.isub X0.here hx rfl (hb hby d18_25) rfl ?_
          refine X0.laload hx (j := (0 : Int32)) (v := (.long x0)) (by rw [e0]; exact Ar3.1) (State.isArrayOf_alike hZ.alike Ar3.2.1) Ar3.2.2 hin4 hat4 (g := (mkF m 26 #[.val (.ref a1), .val (.int (0 : Int32)), .val (.int (3 : Int32)), .val (.int (1 : Int32)), .val (.int (1 : Int32)), .val (.long x1), .second] [(.int (0 : Int32)), (.ref a1), (.long x1)])) rfl rfl (hb hby d18_26) _ ?_
          refine XS.lcmp X0.here hx rfl (hb hby d18_27) rfl ?_
          refine XS.ifYes X0.here hx rfl (pc0 := 28) (pc' := 66) rfl (hb hby d18_28) rfl ((if0 _ _).trans (flt (own_lcnlt hc28)).2.1) (by decide) (by decide) ?_
          refine XS.goto X0.here hx rfl (pc0 := 66) (pc' := 3) rfl (hb hby d18_66) (by decide) (by decide) ?_
          refine XS.iinc X0.here hx rfl (hb hby d18_3) rfl (l' := #[.val (.ref a1), .val (.int (0 : Int32)), .val (.int (3 : Int32)), .val (.int (1 : Int32)), .val (.int (2 : Int32)), .val (.long x1), .second]) rfl ?_
          refine XS.iload X0.here hx rfl (hb hby d18_6) rfl ?_
          refine XS.iloadN X0.here hx rfl (hb hby d18_8) rfl ?_
          refine XS.icmpNo X0.here hx rfl (hb hby d18_9) rfl (tlt (by decide)).2.1 ?_
          refine XS.aloadN X0.here hx rfl (hb hby d18_12) rfl rfl ?_
          refine XS.iload X0.here hx rfl (hb hby d18_13) rfl ?_
          refine XS.dup X0.here hx rfl (hb hby d18_15) rfl rfl ?_
          refine XS.istoreN X0.here hx rfl (hb hby d18_16) rfl (l' := #[.val (.ref a1), .val (.int (0 : Int32)), .val (.int (3 : Int32)), .val (.int (2 : Int32)), .val (.int (2 : Int32)), .val (.long x1), .second]) rfl ?_
          refine X0.laload hx (j := (2 : Int32)) (v := (.long x2)) (by rw [e0]; exact Ar33.1) (State.isArrayOf_alike hZ.alike Ar33.2.1) Ar33.2.2 hin34 hat34 (g := (mkF m 17 #[.val (.ref a1), .val (.int (0 : Int32)), .val (.int (3 : Int32)), .val (.int (2 : Int32)), .val (.int (2 : Int32)), .val (.long x1), .second] [(.int (2 : Int32)), (.ref a1)])) rfl rfl (hb hby d18_17) _ ?_
          refine XS.lstore X0.here hx rfl (hb hby d18_18) rfl (l' := #[.val (.ref a1), .val (.int (0 : Int32)), .val (.int (3 : Int32)), .val (.int (2 : Int32)), .val (.int (2 : Int32)), .val (.long x2), .second]) rfl ?_
          refine XS.lload X0.here hx rfl (hb hby d18_20) rfl ?_
          refine XS.aloadN X0.here hx rfl (hb hby d18_22) rfl rfl ?_
          refine XS.iloadN X0.here hx rfl (hb hby d18_23) rfl ?_
          refine XS.iconst X0.here hx rfl (hb hby d18_24) ?_
          refine XS.isub X0.here hx rfl (hb hby d18_25) rfl ?_
          refine X0.laload hx (j := (1 : Int32)) (v := (.long x1)) (by rw [e0]; exact Ar35.1) (State.isArrayOf_alike hZ.alike Ar35.2.1) Ar35.2.2 hin36 hat36 (g := (mkF m 26 #[.val (.ref a1), .val (.int (0 : Int32)), .val (.int (3 : Int32)), .val (.int (2 : Int32)), .val (.int (2 : Int32)), .val (.long x2), .second] [(.int (1 : Int32)), (.ref a1), (.long x2)])) rfl rfl (hb hby d18_26) _ ?_
          refine XS.lcmp X0.here hx rfl (hb hby d18_27) rfl ?_
          refine XS.ifNo X0.here hx rfl (hb hby d18_28) rfl ((if0 _ _).trans (tlt (own_lclt hc28_2)).2.1) ?_
          refine XS.iinc X0.here hx rfl (hb hby d18_31) rfl (l' := #[.val (.ref a1), .val (.int (0 : Int32)), .val (.int (3 : Int32)), .val (.int (1 : Int32)), .val (.int (2 : Int32)), .val (.long x2), .second]) rfl ?_
          show Steps p.tables e below (s₁.setTop (mkF m 34 #[.val (.ref a1), .val (.int (0 : Int32)), .val (.int (3 : Int32)), .val (.int (1 : Int32)), .val (.int (2 : Int32)), .val (.long x2), .second] [])) _
          refine XS.iloadN X0.here hx rfl (hb hby d18_34) rfl ?_
          refine XS.iloadN X0.here hx rfl (hb hby d18_35) rfl ?_
          refine XS.icmpNo X0.here hx rfl (hb hby d18_36) rfl (flt (by decide)).1 ?_
          refine XS.lload X0.here hx rfl (hb hby d18_39) rfl ?_
          refine XS.aloadN X0.here hx rfl (hb hby d18_41) rfl rfl ?_
          refine XS.iloadN X0.here hx rfl (hb hby d18_42) rfl ?_
          refine X0.laload hx (j := (1 : Int32)) (v := (.long x1)) (by rw [e0]; exact Ar37.1) (State.isArrayOf_alike hZ.alike Ar37.2.1) Ar37.2.2 hin38 hat38 (g := (mkF m 43 #[.val (.ref a1), .val (.int (0 : Int32)), .val (.int (3 : Int32)), .val (.int (1 : Int32)), .val (.int (2 : Int32)), .val (.long x2), .second] [(.int (1 : Int32)), (.ref a1), (.long x2)])) rfl rfl (hb hby d18_43) _ ?_
          refine XS.lcmp X0.here hx rfl (hb hby d18_44) rfl ?_
          refine XS.ifNo X0.here hx rfl (hb hby d18_45) rfl ((if0 _ _).trans (tlt (own_lclt hc28_2)).2.1) ?_
          refine XS.aloadN X0.here hx rfl (hb hby d18_48) rfl rfl ?_
          refine XS.iloadN X0.here hx rfl (hb hby d18_49) rfl ?_
          refine XS.iconst X0.here hx rfl (hb hby d18_50) ?_
          refine XS.iadd X0.here hx rfl (hb hby d18_51) rfl ?_
          refine XS.aloadN X0.here hx rfl (hb hby d18_52) rfl rfl ?_
          refine XS.iloadN X0.here hx rfl (hb hby d18_53) rfl ?_
          refine X0.laload hx (j := (1 : Int32)) (v := (.long x1)) (by rw [e0]; exact Ar39.1) (State.isArrayOf_alike hZ.alike Ar39.2.1) Ar39.2.2 hin40 hat40 (g := (mkF m 54 #[.val (.ref a1), .val (.int (0 : Int32)), .val (.int (3 : Int32)), .val (.int (1 : Int32)), .val (.int (2 : Int32)), .val (.long x2), .second] [(.int (1 : Int32)), (.ref a1), (.int (2 : Int32)), (.ref a1)])) rfl rfl (hb hby d18_54) _ ?_
          refine st42 _ ?_
          refine XS.goto X42.here hx rfl (pc0 := 56) (pc' := 31) rfl (hb hby d18_56) (by decide) (by decide) ?_
          refine XS.iinc X42.here hx rfl (hb hby d18_31) rfl (l' := #[.val (.ref a1), .val (.int (0 : Int32)), .val (.int (3 : Int32)), .val (.int (0 : Int32)), .val (.int (2 : Int32)), .val (.long x2), .second]) rfl ?_
          refine XS.iloadN X42.here hx rfl (hb hby d18_34) rfl ?_
          refine XS.iloadN X42.here hx rfl (hb hby d18_35) rfl ?_
          refine XS.icmpNo X42.here hx rfl (hb hby d18_36) rfl (flt (by decide)).1 ?_
          refine XS.lload X42.here hx rfl (hb hby d18_39) rfl ?_
          refine XS.aloadN X42.here hx rfl (hb hby d18_41) rfl rfl ?_
          refine XS.iloadN X42.here hx rfl (hb hby d18_42) rfl ?_
          refine X42.laload hx (j := (0 : Int32)) (v := (.long x0)) (by rw [e42]; exact Ar43.1) (State.isArrayOf_alike hZ.alike Ar43.2.1) Ar43.2.2 hin44 hat44 (g := (mkF m 43 #[.val (.ref a1), .val (.int (0 : Int32)), .val (.int (3 : Int32)), .val (.int (0 : Int32)), .val (.int (2 : Int32)), .val (.long x2), .second] [(.int (0 : Int32)), (.ref a1), (.long x2)])) rfl rfl (hb hby d18_43) _ ?_
          refine XS.lcmp X42.here hx rfl (hb hby d18_44) rfl ?_
          refine XS.ifYes X42.here hx rfl (pc0 := 45) (pc' := 59) rfl (hb hby d18_45) rfl ((if0 _ _).trans (flt (own_lcnlt hc45_2)).2.1) (by decide) (by decide) ?_
          refine XS.aloadN X42.here hx rfl (hb hby d18_59) rfl rfl ?_
          refine XS.iloadN X42.here hx rfl (hb hby d18_60) rfl ?_
          refine XS.iconst X42.here hx rfl (hb hby d18_61) ?_
          refine XS.iadd X42.here hx rfl (hb hby d18_62) rfl ?_
          refine XS.lload X42.here hx rfl (hb hby d18_63) rfl ?_
          refine st52 _ ?_
          refine XS.goto X52.here hx rfl (pc0 := 66) (pc' := 3) rfl (hb hby d18_66) (by decide) (by decide) ?_
          refine XS.iinc X52.here hx rfl (hb hby d18_3) rfl (l' := #[.val (.ref a1), .val (.int (0 : Int32)), .val (.int (3 : Int32)), .val (.int (0 : Int32)), .val (.int (3 : Int32)), .val (.long x2), .second]) rfl ?_
          refine XS.iload X52.here hx rfl (hb hby d18_6) rfl ?_
          refine XS.iloadN X52.here hx rfl (hb hby d18_8) rfl ?_
          refine XS.icmpYes X52.here hx rfl (pc0 := 9) (pc' := 69) rfl (hb hby d18_9) rfl (flt (by decide)).2.1 (by decide) (by decide) ?_
          show Steps p.tables e below (T52.setTop (mkF m 69 #[.val (.ref a1), .val (.int (0 : Int32)), .val (.int (3 : Int32)), .val (.int (0 : Int32)), .val (.int (3 : Int32)), .val (.long x2), .second] [])) _
          exact X52.returnOut hx Bd.returns (hb hby d18_69) hr
        · show Qrmi3 Z a1 k x0 x1 x2 h0 n0 _ T52.heap _
          rw [e52]
          exact ⟨rfl, N52, K52, x0, x2, x1, V52, ⟨hc45_2, (own_ltN hc28_2)⟩, (Or.inr (Or.inl ⟨rfl, rfl, rfl⟩))⟩
    · obtain ⟨fs, hr, hrun, hended, hW, hsame⟩ := X0.leave (v := none) (fun _ => rfl) (BodyLoose.notSynchronized Bd)
      refine ⟨_, _, pre0 _ ?_, hrun, hended, _, _, rfl, ?_, ⟨_, rfl⟩, hW, hsame.mono (by decide) (by decide)⟩
      · show Steps p.tables e below (s₁.setTop (mkF m 0 #[.val (.ref a1), .val (.int (0 : Int32)), .val (.int (3 : Int32)), .unset, .unset, .unset, .unset] [])) _
        refine XS.iloadN X0.here hx rfl (hb hby d18_0) rfl ?_
        refine XS.istore X0.here hx rfl (hb hby d18_1) rfl (l' := #[.val (.ref a1), .val (.int (0 : Int32)), .val (.int (3 : Int32)), .unset, .val (.int (0 : Int32)), .unset, .unset]) rfl ?_
        refine XS.iinc X0.here hx rfl (hb hby d18_3) rfl (l' := #[.val (.ref a1), .val (.int (0 : Int32)), .val (.int (3 : Int32)), .unset, .val (.int (1 : Int32)), .unset, .unset]) rfl ?_
        refine XS.iload X0.here hx rfl (hb hby d18_6) rfl ?_
        refine XS.iloadN X0.here hx rfl (hb hby d18_8) rfl ?_
        refine XS.icmpNo X0.here hx rfl (hb hby d18_9) rfl (tlt (by decide)).2.1 ?_
        refine XS.aloadN X0.here hx rfl (hb hby d18_12) rfl rfl ?_
        refine XS.iload X0.here hx rfl (hb hby d18_13) rfl ?_
        refine XS.dup X0.here hx rfl (hb hby d18_15) rfl rfl ?_
        refine XS.istoreN X0.here hx rfl (hb hby d18_16) rfl (l' := #[.val (.ref a1), .val (.int (0 : Int32)), .val (.int (3 : Int32)), .val (.int (1 : Int32)), .val (.int (1 : Int32)), .unset, .unset]) rfl ?_
        refine X0.laload hx (j := (1 : Int32)) (v := (.long x1)) (by rw [e0]; exact Ar1.1) (State.isArrayOf_alike hZ.alike Ar1.2.1) Ar1.2.2 hin2 hat2 (g := (mkF m 17 #[.val (.ref a1), .val (.int (0 : Int32)), .val (.int (3 : Int32)), .val (.int (1 : Int32)), .val (.int (1 : Int32)), .unset, .unset] [(.int (1 : Int32)), (.ref a1)])) rfl rfl (hb hby d18_17) _ ?_
        refine XS.lstore X0.here hx rfl (hb hby d18_18) rfl (l' := #[.val (.ref a1), .val (.int (0 : Int32)), .val (.int (3 : Int32)), .val (.int (1 : Int32)), .val (.int (1 : Int32)), .val (.long x1), .second]) rfl ?_
        refine XS.lload X0.here hx rfl (hb hby d18_20) rfl ?_
        refine XS.aloadN X0.here hx rfl (hb hby d18_22) rfl rfl ?_
        refine XS.iloadN X0.here hx rfl (hb hby d18_23) rfl ?_
        refine XS.iconst X0.here hx rfl (hb hby d18_24) ?_
        refine XS.isub X0.here hx rfl (hb hby d18_25) rfl ?_
        refine X0.laload hx (j := (0 : Int32)) (v := (.long x0)) (by rw [e0]; exact Ar3.1) (State.isArrayOf_alike hZ.alike Ar3.2.1) Ar3.2.2 hin4 hat4 (g := (mkF m 26 #[.val (.ref a1), .val (.int (0 : Int32)), .val (.int (3 : Int32)), .val (.int (1 : Int32)), .val (.int (1 : Int32)), .val (.long x1), .second] [(.int (0 : Int32)), (.ref a1), (.long x1)])) rfl rfl (hb hby d18_26) _ ?_
        refine XS.lcmp X0.here hx rfl (hb hby d18_27) rfl ?_
        refine XS.ifYes X0.here hx rfl (pc0 := 28) (pc' := 66) rfl (hb hby d18_28) rfl ((if0 _ _).trans (flt (own_lcnlt hc28)).2.1) (by decide) (by decide) ?_
        refine XS.goto X0.here hx rfl (pc0 := 66) (pc' := 3) rfl (hb hby d18_66) (by decide) (by decide) ?_
        refine XS.iinc X0.here hx rfl (hb hby d18_3) rfl (l' := #[.val (.ref a1), .val (.int (0 : Int32)), .val (.int (3 : Int32)), .val (.int (1 : Int32)), .val (.int (2 : Int32)), .val (.long x1), .second]) rfl ?_
        refine XS.iload X0.here hx rfl (hb hby d18_6) rfl ?_
        refine XS.iloadN X0.here hx rfl (hb hby d18_8) rfl ?_
        refine XS.icmpNo X0.here hx rfl (hb hby d18_9) rfl (tlt (by decide)).2.1 ?_
        refine XS.aloadN X0.here hx rfl (hb hby d18_12) rfl rfl ?_
        refine XS.iload X0.here hx rfl (hb hby d18_13) rfl ?_
        refine XS.dup X0.here hx rfl (hb hby d18_15) rfl rfl ?_
        refine XS.istoreN X0.here hx rfl (hb hby d18_16) rfl (l' := #[.val (.ref a1), .val (.int (0 : Int32)), .val (.int (3 : Int32)), .val (.int (2 : Int32)), .val (.int (2 : Int32)), .val (.long x1), .second]) rfl ?_
        refine X0.laload hx (j := (2 : Int32)) (v := (.long x2)) (by rw [e0]; exact Ar33.1) (State.isArrayOf_alike hZ.alike Ar33.2.1) Ar33.2.2 hin34 hat34 (g := (mkF m 17 #[.val (.ref a1), .val (.int (0 : Int32)), .val (.int (3 : Int32)), .val (.int (2 : Int32)), .val (.int (2 : Int32)), .val (.long x1), .second] [(.int (2 : Int32)), (.ref a1)])) rfl rfl (hb hby d18_17) _ ?_
        refine XS.lstore X0.here hx rfl (hb hby d18_18) rfl (l' := #[.val (.ref a1), .val (.int (0 : Int32)), .val (.int (3 : Int32)), .val (.int (2 : Int32)), .val (.int (2 : Int32)), .val (.long x2), .second]) rfl ?_
        refine XS.lload X0.here hx rfl (hb hby d18_20) rfl ?_
        refine XS.aloadN X0.here hx rfl (hb hby d18_22) rfl rfl ?_
        refine XS.iloadN X0.here hx rfl (hb hby d18_23) rfl ?_
        refine XS.iconst X0.here hx rfl (hb hby d18_24) ?_
        refine XS.isub X0.here hx rfl (hb hby d18_25) rfl ?_
        refine X0.laload hx (j := (1 : Int32)) (v := (.long x1)) (by rw [e0]; exact Ar35.1) (State.isArrayOf_alike hZ.alike Ar35.2.1) Ar35.2.2 hin36 hat36 (g := (mkF m 26 #[.val (.ref a1), .val (.int (0 : Int32)), .val (.int (3 : Int32)), .val (.int (2 : Int32)), .val (.int (2 : Int32)), .val (.long x2), .second] [(.int (1 : Int32)), (.ref a1), (.long x2)])) rfl rfl (hb hby d18_26) _ ?_
        refine XS.lcmp X0.here hx rfl (hb hby d18_27) rfl ?_
        refine XS.ifYes X0.here hx rfl (pc0 := 28) (pc' := 66) rfl (hb hby d18_28) rfl ((if0 _ _).trans (flt (own_lcnlt hc28_2)).2.1) (by decide) (by decide) ?_
        refine XS.goto X0.here hx rfl (pc0 := 66) (pc' := 3) rfl (hb hby d18_66) (by decide) (by decide) ?_
        show Steps p.tables e below (s₁.setTop (mkF m 3 #[.val (.ref a1), .val (.int (0 : Int32)), .val (.int (3 : Int32)), .val (.int (2 : Int32)), .val (.int (2 : Int32)), .val (.long x2), .second] [])) _
        refine XS.iinc X0.here hx rfl (hb hby d18_3) rfl (l' := #[.val (.ref a1), .val (.int (0 : Int32)), .val (.int (3 : Int32)), .val (.int (2 : Int32)), .val (.int (3 : Int32)), .val (.long x2), .second]) rfl ?_
        refine XS.iload X0.here hx rfl (hb hby d18_6) rfl ?_
        refine XS.iloadN X0.here hx rfl (hb hby d18_8) rfl ?_
        refine XS.icmpYes X0.here hx rfl (pc0 := 9) (pc' := 69) rfl (hb hby d18_9) rfl (flt (by decide)).2.1 (by decide) (by decide) ?_
        show Steps p.tables e below (s₁.setTop (mkF m 69 #[.val (.ref a1), .val (.int (0 : Int32)), .val (.int (3 : Int32)), .val (.int (2 : Int32)), .val (.int (3 : Int32)), .val (.long x2), .second] [])) _
        exact X0.returnOut hx Bd.returns (hb hby d18_69) hr
      · show Qrmi3 Z a1 k x0 x1 x2 h0 n0 _ s₁.heap _
        rw [e0]
        exact ⟨rfl, N0, (Keep.refl h0 [a1]), x0, x1, x2, A, ⟨hc28, hc28_2⟩, (Or.inl ⟨rfl, rfl, rfl⟩)⟩
theorem ef_rms3 (m : MethodId) (a2 : Addr) : entryFrame m #[.null, (.ref a2), (.int (0 : Int32)), (.int (0 : Int32)), (.int (3 : Int32))] 25 = mkF m 0 #[.val .null, .val (.ref a2), .val (.int (0 : Int32)), .val (.int (0 : Int32)), .val (.int (3 : Int32)), .unset, .unset, .unset, .unset, .unset, .unset, .unset, .unset, .unset, .unset, .unset, .unset, .unset, .unset, .unset, .unset, .unset, .unset, .unset, .unset] [] := by first | (simp [entryFrame, mkF, argsToLocals, Value.category]; done) | rfl
def Qrms3 (Z : State) (a2 : Addr) (k : ClassId) (x0 : Int64) (x1 : Int64) (x2 : Int64) (h0 : Heap) (n0 : Nat) (v : Option Value) (h : Heap) (L : List Loc) : Prop := v = none ∧ Fr n0 L ∧ Keep h0 h [a2] ∧ ∃ y0 y1 y2 : Int64, Arv Z h a2 k .long (3 : Int32) [.long y0, .long y1, .long y2] (.long (0 : Int64)) ∧ (¬ y1 < y0 ∧ ¬ y2 < y1) ∧ ((y0 = x0 ∧ y1 = x1 ∧ y2 = x2) ∨ (y0 = x0 ∧ y1 = x2 ∧ y2 = x1) ∨ (y0 = x1 ∧ y1 = x0 ∧ y2 = x2) ∨ (y0 = x1 ∧ y1 = x2 ∧ y2 = x0) ∨ (y0 = x2 ∧ y1 = x0 ∧ y2 = x1) ∨ (y0 = x2 ∧ y1 = x1 ∧ y2 = x0))
set_option maxRecDepth 65536 in
set_option maxHeartbeats 40000000 in
theorem rms3 (l : Launch) (Z : State) (a0 : Array Value) (hw : ∀ d ∈ tables_1, d.before a0 Z = true) (ws : List Jvm.Cond) (a2 : Addr) (k : ClassId) (x0 : Int64) (x1 : Int64) (x2 : Int64) (h0 : Heap) (n0 : Nat) (Z0 : n0 ≤ h0.size) (A : Arv Z h0 a2 k .long (3 : Int32) [.long x0, .long x1, .long x2] (.long (0 : Int64))) (ga : n0 ≤ a2) :
    MetFree l (⟨"java/util/DualPivotQuicksort", "sort", "(Ljava/util/DualPivotQuicksort$Sorter;[JIII)V"⟩ : MethodName) (head1 (Jvm.Cond.code (⟨"java/util/DualPivotQuicksort", "sort", "(Ljava/util/DualPivotQuicksort$Sorter;[JIII)V"⟩ : MethodName) jdk_2529_method_13_code 25 none :: ws) ({ frames := 1, cells := 0, slots := 0, locals := 18 } : Room)) (fun a U => a = #[.null, (.ref a2), (.int (0 : Int32)), (.int (0 : Int32)), (.int (3 : Int32))] ∧ Z.Warmed39 U.vm ∧ U.heap = h0) (fun _ _ _ _ _ => True) (fun _ U o U' => ∃ v L, o = .returned v ∧ Qrms3 Z a2 k x0 x1 x2 h0 n0 v U'.heap L ∧ FrameEnd U o U' L ({ frames := 1, cells := 0, slots := 0, locals := 18 } : Room).cells ({ frames := 1, cells := 0, slots := 0, locals := 18 } : Room).slots) := by
  refine MetFree.of_bodySF (plainFor_of_name pn_17) hisR ?_
  intro p e s m args below meth c s₁ Bd hml0 hP hK
  obtain ⟨rfl, hZ, hh⟩ := hP
  have hx := Bd.exec
  have hby := Bd.bytes
  have hml : c.maxLocals = 25 := hml0
  have hown : s.vm.findClass "java/util/DualPivotQuicksort" = some m.cls := findClass_of_methodNamed Bd.named
  have hnm := (name_of_methodNamed Bd.named Bd.method).1
  have X0 : Stand p l e ({ frames := 1, cells := 0, slots := 0, locals := 18 } : Room) s m #[.null, (.ref a2), (.int (0 : Int32)), (.int (0 : Int32)), (.int (3 : Int32))] below meth c s₁ [] 0 0 := Stand.of_body Bd
  have e0 : s₁.heap = h0 := by rw [← hh, Bd.state]; rfl
  have N0 := Fr.nil n0
  have pre0 : ∀ t, Steps p.tables e below (s₁.setTop (mkF m 0 #[.val .null, .val (.ref a2), .val (.int (0 : Int32)), .val (.int (0 : Int32)), .val (.int (3 : Int32)), .unset, .unset, .unset, .unset, .unset, .unset, .unset, .unset, .unset, .unset, .unset, .unset, .unset, .unset, .unset, .unset, .unset, .unset, .unset, .unset] [])) t → Steps p.tables e below (s₁.setTop (entryFrame m #[.null, (.ref a2), (.int (0 : Int32)), (.int (0 : Int32)), (.int (3 : Int32))] 25)) t := fun t k => castTop (ef_rms3 m a2) k
  obtain ⟨_, _, ⟨T1, Lq1, kq1, nq1⟩, -, X1, ⟨Lc1, hQ1, lq1, yq1, zq1⟩, st1⟩ := Jvm.LawKit.callS X0 hx (y := (⟨"java/util/DualPivotQuicksort", "insertionSort", "([JII)V"⟩ : MethodName)) hown (mvT hZ (hw _ (own_w 82 rfl))) (mvT hZ (hw _ (own_w 83 rfl))) (mvT hZ (hw _ (own_w 77 rfl))) (mvT hZ (hw _ (own_w 84 rfl))) (by decide) (backOf (W := 0) (rmi3 l Z a0 hw [] a2 k x0 x1 x2 h0 n0 Z0 A ga) hZ (hw _ (own_w 84 rfl)) (hw _ (own_w 77 rfl)) (by decide) (by decide)) (g := (mkF m 57 #[.val .null, .val (.ref a2), .val (.int (0 : Int32)), .val (.int (0 : Int32)), .val (.int (3 : Int32)), .val (.int (2 : Int32)), .val (.int (3 : Int32)), .unset, .unset, .unset, .unset, .unset, .unset, .unset, .unset, .unset, .unset, .unset, .unset, .unset, .unset, .unset, .unset, .unset, .unset] [(.int (3 : Int32)), (.int (0 : Int32)), (.ref a2)])) rfl (by rw [hml]; rfl) (argsL := [(.ref a2), (.int (0 : Int32)), (.int (3 : Int32))]) (rest := []) (lenOf pd_5 rfl) rfl (by show 2 * 0 + _ ≤ _; exact Nat.le_of_eq rfl) (hb hby d17_57) (fun _ _ => ⟨rfl, e0, (by decide : 0 + 0 ≤ _), (by decide : 0 + 0 ≤ _)⟩)
  dsimp only [Pt.U, Pt.locs, Pt.cells, Pt.slots] at X1 lq1 yq1 zq1 st1 hQ1
  subst lq1 yq1 zq1
  obtain ⟨rfl, N1q, KC1, u1⟩ := hQ1
  have N1 := Fr.app N0 N1q
  have Z1 : n0 ≤ T1.heap.size := Nat.le_trans Z0 KC1.1
  have K1 : Keep h0 T1.heap [a2] := (Keep.refl h0 [a2]).trans KC1 (allS (Or.inl (own_w 0 rfl)) all0)
  obtain ⟨y1_0, y1_1, y1_2, AV1, so1, pm1⟩ := id u1
  obtain ⟨fs, hr, hrun, hended, hW, hsame⟩ := X1.leave (v := none) (fun _ => rfl) (BodyLoose.notSynchronized Bd)
  refine ⟨_, _, pre0 _ ?_, hrun, hended, _, _, rfl, ?_, ⟨_, rfl⟩, hW, hsame.mono (by decide) (by decide)⟩
  · show Steps p.tables e below (s₁.setTop (mkF m 0 #[.val .null, .val (.ref a2), .val (.int (0 : Int32)), .val (.int (0 : Int32)), .val (.int (3 : Int32)), .unset, .unset, .unset, .unset, .unset, .unset, .unset, .unset, .unset, .unset, .unset, .unset, .unset, .unset, .unset, .unset, .unset, .unset, .unset, .unset] [])) _
    refine XS.iload X0.here hx rfl (hb hby d17_0) rfl ?_
    refine XS.iconst X0.here hx rfl (hb hby d17_2) ?_
    refine XS.isub X0.here hx rfl (hb hby d17_3) rfl ?_
    refine XS.istore X0.here hx rfl (hb hby d17_4) rfl (l' := #[.val .null, .val (.ref a2), .val (.int (0 : Int32)), .val (.int (0 : Int32)), .val (.int (3 : Int32)), .val (.int (2 : Int32)), .unset, .unset, .unset, .unset, .unset, .unset, .unset, .unset, .unset, .unset, .unset, .unset, .unset, .unset, .unset, .unset, .unset, .unset, .unset]) rfl ?_
    refine XS.iload X0.here hx rfl (hb hby d17_6) rfl ?_
    refine XS.iloadN X0.here hx rfl (hb hby d17_8) rfl ?_
    refine XS.isub X0.here hx rfl (hb hby d17_9) rfl ?_
    refine XS.istore X0.here hx rfl (hb hby d17_10) rfl (l' := #[.val .null, .val (.ref a2), .val (.int (0 : Int32)), .val (.int (0 : Int32)), .val (.int (3 : Int32)), .val (.int (2 : Int32)), .val (.int (3 : Int32)), .unset, .unset, .unset, .unset, .unset, .unset, .unset, .unset, .unset, .unset, .unset, .unset, .unset, .unset, .unset, .unset, .unset, .unset]) rfl ?_
    refine XS.iload X0.here hx rfl (hb hby d17_12) rfl ?_
    refine XS.bipush X0.here hx rfl (hb hby d17_14) ?_
    refine XS.iloadN X0.here hx rfl (hb hby d17_16) rfl ?_
    refine XS.iadd X0.here hx rfl (hb hby d17_17) rfl ?_
    refine XS.icmpNo X0.here hx rfl (hb hby d17_18) rfl (tlt (by decide)).2.1 ?_
    refine XS.iloadN X0.here hx rfl (hb hby d17_21) rfl ?_
    refine XS.iconst X0.here hx rfl (hb hby d17_22) ?_
    refine XS.iand X0.here hx rfl (hb hby d17_23) rfl ?_
    refine XS.ifYes X0.here hx rfl (pc0 := 24) (pc' := 46) rfl (hb hby d17_24) rfl ((if0 _ _).trans (flt (by decide)).2.2.2) (by decide) (by decide) ?_
    refine XS.iload X0.here hx rfl (hb hby d17_46) rfl ?_
    refine XS.bipush X0.here hx rfl (hb hby d17_48) ?_
    refine XS.icmpNo X0.here hx rfl (hb hby d17_50) rfl (tlt (by decide)).2.1 ?_
    refine XS.aloadN X0.here hx rfl (hb hby d17_53) rfl rfl ?_
    refine XS.iloadN X0.here hx rfl (hb hby d17_54) rfl ?_
    refine XS.iload X0.here hx rfl (hb hby d17_55) rfl ?_
    refine st1 _ ?_
    show Steps p.tables e below (T1.setTop (mkF m 60 #[.val .null, .val (.ref a2), .val (.int (0 : Int32)), .val (.int (0 : Int32)), .val (.int (3 : Int32)), .val (.int (2 : Int32)), .val (.int (3 : Int32)), .unset, .unset, .unset, .unset, .unset, .unset, .unset, .unset, .unset, .unset, .unset, .unset, .unset, .unset, .unset, .unset, .unset, .unset] [])) _
    exact X1.returnOut hx Bd.returns (hb hby d17_60) hr
  · show Qrms3 Z a2 k x0 x1 x2 h0 n0 _ T1.heap _
    exact ⟨rfl, N1, K1, u1⟩
theorem ef_rmd3 (m : MethodId) (a1 : Addr) : entryFrame m #[(.ref a1), (.int (0 : Int32)), (.int (0 : Int32)), (.int (3 : Int32))] 7 = mkF m 0 #[.val (.ref a1), .val (.int (0 : Int32)), .val (.int (0 : Int32)), .val (.int (3 : Int32)), .unset, .unset, .unset] [] := by first | (simp [entryFrame, mkF, argsToLocals, Value.category]; done) | rfl
def Qrmd3 (Z : State) (a1 : Addr) (k : ClassId) (x0 : Int64) (x1 : Int64) (x2 : Int64) (h0 : Heap) (n0 : Nat) (v : Option Value) (h : Heap) (L : List Loc) : Prop := v = none ∧ Fr n0 L ∧ Keep h0 h [a1] ∧ ∃ y0 y1 y2 : Int64, Arv Z h a1 k .long (3 : Int32) [.long y0, .long y1, .long y2] (.long (0 : Int64)) ∧ (¬ y1 < y0 ∧ ¬ y2 < y1) ∧ ((y0 = x0 ∧ y1 = x1 ∧ y2 = x2) ∨ (y0 = x0 ∧ y1 = x2 ∧ y2 = x1) ∨ (y0 = x1 ∧ y1 = x0 ∧ y2 = x2) ∨ (y0 = x1 ∧ y1 = x2 ∧ y2 = x0) ∨ (y0 = x2 ∧ y1 = x0 ∧ y2 = x1) ∨ (y0 = x2 ∧ y1 = x1 ∧ y2 = x0))
set_option maxRecDepth 65536 in
set_option maxHeartbeats 40000000 in
theorem rmd3 (l : Launch) (Z : State) (a0 : Array Value) (hw : ∀ d ∈ tables_1, d.before a0 Z = true) (ws : List Jvm.Cond) (a1 : Addr) (k : ClassId) (x0 : Int64) (x1 : Int64) (x2 : Int64) (h0 : Heap) (n0 : Nat) (Z0 : n0 ≤ h0.size) (A : Arv Z h0 a1 k .long (3 : Int32) [.long x0, .long x1, .long x2] (.long (0 : Int64))) (ga : n0 ≤ a1) :
    MetFree l (⟨"java/util/DualPivotQuicksort", "sort", "([JIII)V"⟩ : MethodName) (head1 (Jvm.Cond.code (⟨"java/util/DualPivotQuicksort", "sort", "([JIII)V"⟩ : MethodName) jdk_2529_method_12_code 7 none :: ws) ({ frames := 2, cells := 0, slots := 0, locals := 54 } : Room)) (fun a U => a = #[(.ref a1), (.int (0 : Int32)), (.int (0 : Int32)), (.int (3 : Int32))] ∧ Z.Warmed39 U.vm ∧ U.heap = h0) (fun _ _ _ _ _ => True) (fun _ U o U' => ∃ v L, o = .returned v ∧ Qrmd3 Z a1 k x0 x1 x2 h0 n0 v U'.heap L ∧ FrameEnd U o U' L ({ frames := 2, cells := 0, slots := 0, locals := 54 } : Room).cells ({ frames := 2, cells := 0, slots := 0, locals := 54 } : Room).slots) := by
  refine MetFree.of_bodySF (plainFor_of_name pn_16) hisR ?_
  intro p e s m args below meth c s₁ Bd hml0 hP hK
  obtain ⟨rfl, hZ, hh⟩ := hP
  have hx := Bd.exec
  have hby := Bd.bytes
  have hml : c.maxLocals = 7 := hml0
  have hown : s.vm.findClass "java/util/DualPivotQuicksort" = some m.cls := findClass_of_methodNamed Bd.named
  have hnm := (name_of_methodNamed Bd.named Bd.method).1
  have X0 : Stand p l e ({ frames := 2, cells := 0, slots := 0, locals := 54 } : Room) s m #[(.ref a1), (.int (0 : Int32)), (.int (0 : Int32)), (.int (3 : Int32))] below meth c s₁ [] 0 0 := Stand.of_body Bd
  have e0 : s₁.heap = h0 := by rw [← hh, Bd.state]; rfl
  have N0 := Fr.nil n0
  have pre0 : ∀ t, Steps p.tables e below (s₁.setTop (mkF m 0 #[.val (.ref a1), .val (.int (0 : Int32)), .val (.int (0 : Int32)), .val (.int (3 : Int32)), .unset, .unset, .unset] [])) t → Steps p.tables e below (s₁.setTop (entryFrame m #[(.ref a1), (.int (0 : Int32)), (.int (0 : Int32)), (.int (3 : Int32))] 7)) t := fun t k => castTop (ef_rmd3 m a1) k
  obtain ⟨_, _, ⟨T1, Lq1, kq1, nq1⟩, -, X1, ⟨Lc1, hQ1, lq1, yq1, zq1⟩, st1⟩ := Jvm.LawKit.callS X0 hx (y := (⟨"java/util/DualPivotQuicksort", "sort", "(Ljava/util/DualPivotQuicksort$Sorter;[JIII)V"⟩ : MethodName)) hown (mvT hZ (hw _ (own_w 79 rfl))) (mvT hZ (hw _ (own_w 80 rfl))) (mvT hZ (hw _ (own_w 77 rfl))) (mvT hZ (hw _ (own_w 81 rfl))) (by decide) (backOf (W := 0) (rms3 l Z a0 hw [] a1 k x0 x1 x2 h0 n0 Z0 A ga) hZ (hw _ (own_w 81 rfl)) (hw _ (own_w 77 rfl)) (by decide) (by decide)) (g := (mkF m 73 #[.val (.ref a1), .val (.int (0 : Int32)), .val (.int (0 : Int32)), .val (.int (3 : Int32)), .val (.int (3 : Int32)), .unset, .unset] [(.int (3 : Int32)), (.int (0 : Int32)), (.int (0 : Int32)), (.ref a1), .null])) rfl (by rw [hml]; rfl) (argsL := [.null, (.ref a1), (.int (0 : Int32)), (.int (0 : Int32)), (.int (3 : Int32))]) (rest := []) (lenOf pd_6 rfl) rfl (by show 2 * 0 + _ ≤ _; exact Nat.le_of_eq rfl) (hb hby d16_73) (fun _ _ => ⟨rfl, e0, (by decide : 0 + 0 ≤ _), (by decide : 0 + 0 ≤ _)⟩)
  dsimp only [Pt.U, Pt.locs, Pt.cells, Pt.slots] at X1 lq1 yq1 zq1 st1 hQ1
  subst lq1 yq1 zq1
  obtain ⟨rfl, N1q, KC1, u1⟩ := hQ1
  have N1 := Fr.app N0 N1q
  have Z1 : n0 ≤ T1.heap.size := Nat.le_trans Z0 KC1.1
  have K1 : Keep h0 T1.heap [a1] := (Keep.refl h0 [a1]).trans KC1 (allS (Or.inl (own_w 0 rfl)) all0)
  obtain ⟨y1_0, y1_1, y1_2, AV1, so1, pm1⟩ := id u1
  obtain ⟨fs, hr, hrun, hended, hW, hsame⟩ := X1.leave (v := none) (fun _ => rfl) (BodyLoose.notSynchronized Bd)
  refine ⟨_, _, pre0 _ ?_, hrun, hended, _, _, rfl, ?_, ⟨_, rfl⟩, hW, hsame.mono (by decide) (by decide)⟩
  · show Steps p.tables e below (s₁.setTop (mkF m 0 #[.val (.ref a1), .val (.int (0 : Int32)), .val (.int (0 : Int32)), .val (.int (3 : Int32)), .unset, .unset, .unset] [])) _
    refine XS.iloadN X0.here hx rfl (hb hby d16_0) rfl ?_
    refine XS.iloadN X0.here hx rfl (hb hby d16_1) rfl ?_
    refine XS.isub X0.here hx rfl (hb hby d16_2) rfl ?_
    refine XS.istore X0.here hx rfl (hb hby d16_3) rfl (l' := #[.val (.ref a1), .val (.int (0 : Int32)), .val (.int (0 : Int32)), .val (.int (3 : Int32)), .val (.int (3 : Int32)), .unset, .unset]) rfl ?_
    refine XS.iloadN X0.here hx rfl (hb hby d16_5) rfl ?_
    refine XS.iconst X0.here hx rfl (hb hby d16_6) ?_
    refine XS.icmpYes X0.here hx rfl (pc0 := 7) (pc' := 68) rfl (hb hby d16_7) rfl (flt (by decide)).2.2.2 (by decide) (by decide) ?_
    refine XS.aconstNull X0.here hx rfl (hb hby d16_68) ?_
    refine XS.aloadN X0.here hx rfl (hb hby d16_69) rfl rfl ?_
    refine XS.iconst X0.here hx rfl (hb hby d16_70) ?_
    refine XS.iloadN X0.here hx rfl (hb hby d16_71) rfl ?_
    refine XS.iloadN X0.here hx rfl (hb hby d16_72) rfl ?_
    refine st1 _ ?_
    show Steps p.tables e below (T1.setTop (mkF m 76 #[.val (.ref a1), .val (.int (0 : Int32)), .val (.int (0 : Int32)), .val (.int (3 : Int32)), .val (.int (3 : Int32)), .unset, .unset] [])) _
    exact X1.returnOut hx Bd.returns (hb hby d16_76) hr
  · show Qrmd3 Z a1 k x0 x1 x2 h0 n0 _ T1.heap _
    exact ⟨rfl, N1, K1, u1⟩
theorem ef_rma3 (m : MethodId) (a1 : Addr) : entryFrame m #[(.ref a1)] 1 = mkF m 0 #[.val (.ref a1)] [] := by first | (simp [entryFrame, mkF, argsToLocals, Value.category]; done) | rfl
def Qrma3 (Z : State) (a1 : Addr) (k : ClassId) (x0 : Int64) (x1 : Int64) (x2 : Int64) (h0 : Heap) (n0 : Nat) (v : Option Value) (h : Heap) (L : List Loc) : Prop := v = none ∧ Fr n0 L ∧ Keep h0 h [a1] ∧ ∃ y0 y1 y2 : Int64, Arv Z h a1 k .long (3 : Int32) [.long y0, .long y1, .long y2] (.long (0 : Int64)) ∧ (¬ y1 < y0 ∧ ¬ y2 < y1) ∧ ((y0 = x0 ∧ y1 = x1 ∧ y2 = x2) ∨ (y0 = x0 ∧ y1 = x2 ∧ y2 = x1) ∨ (y0 = x1 ∧ y1 = x0 ∧ y2 = x2) ∨ (y0 = x1 ∧ y1 = x2 ∧ y2 = x0) ∨ (y0 = x2 ∧ y1 = x0 ∧ y2 = x1) ∨ (y0 = x2 ∧ y1 = x1 ∧ y2 = x0))
set_option maxRecDepth 65536 in
set_option maxHeartbeats 40000000 in
theorem rma3 (l : Launch) (Z : State) (a0 : Array Value) (hw : ∀ d ∈ tables_1, d.before a0 Z = true) (ws : List Jvm.Cond) (a1 : Addr) (k : ClassId) (x0 : Int64) (x1 : Int64) (x2 : Int64) (h0 : Heap) (n0 : Nat) (Z0 : n0 ≤ h0.size) (A : Arv Z h0 a1 k .long (3 : Int32) [.long x0, .long x1, .long x2] (.long (0 : Int64))) (ga : n0 ≤ a1) :
    MetFree l (⟨"java/util/Arrays", "sort", "([J)V"⟩ : MethodName) (head1 (Jvm.Cond.code (⟨"java/util/Arrays", "sort", "([J)V"⟩ : MethodName) jdk_65_method_4_code 1 none :: ws) ({ frames := 3, cells := 0, slots := 0, locals := 72 } : Room)) (fun a U => a = #[(.ref a1)] ∧ Z.Warmed39 U.vm ∧ U.heap = h0) (fun _ _ _ _ _ => True) (fun _ U o U' => ∃ v L, o = .returned v ∧ Qrma3 Z a1 k x0 x1 x2 h0 n0 v U'.heap L ∧ FrameEnd U o U' L ({ frames := 3, cells := 0, slots := 0, locals := 72 } : Room).cells ({ frames := 3, cells := 0, slots := 0, locals := 72 } : Room).slots) := by
  refine MetFree.of_bodySF (plainFor_of_name pn_15) hisR ?_
  intro p e s m args below meth c s₁ Bd hml0 hP hK
  obtain ⟨rfl, hZ, hh⟩ := hP
  have hx := Bd.exec
  have hby := Bd.bytes
  have hml : c.maxLocals = 1 := hml0
  have hown : s.vm.findClass "java/util/Arrays" = some m.cls := findClass_of_methodNamed Bd.named
  have hnm := (name_of_methodNamed Bd.named Bd.method).1
  have X0 : Stand p l e ({ frames := 3, cells := 0, slots := 0, locals := 72 } : Room) s m #[(.ref a1)] below meth c s₁ [] 0 0 := Stand.of_body Bd
  have e0 : s₁.heap = h0 := by rw [← hh, Bd.state]; rfl
  have N0 := Fr.nil n0
  have pre0 : ∀ t, Steps p.tables e below (s₁.setTop (mkF m 0 #[.val (.ref a1)] [])) t → Steps p.tables e below (s₁.setTop (entryFrame m #[(.ref a1)] 1)) t := fun t k => castTop (ef_rma3 m a1) k
  obtain ⟨cl1, Ar1, qk1, Sz1, Nn1, Hh1, Gg1⟩ := id (A)
  obtain ⟨_, _, ⟨T2, Lq2, kq2, nq2⟩, -, X2, ⟨Lc2, hQ2, lq2, yq2, zq2⟩, st2⟩ := Jvm.LawKit.callS X0 hx (y := (⟨"java/util/DualPivotQuicksort", "sort", "([JIII)V"⟩ : MethodName)) hown (mvT hZ (hw _ (own_w 75 rfl))) (mvT hZ (hw _ (own_w 76 rfl))) (mvT hZ (hw _ (own_w 77 rfl))) (mvT hZ (hw _ (own_w 78 rfl))) (by decide) (backOf (W := 0) (rmd3 l Z a0 hw [] a1 k x0 x1 x2 h0 n0 Z0 A ga) hZ (hw _ (own_w 78 rfl)) (hw _ (own_w 77 rfl)) (by decide) (by decide)) (g := (mkF m 5 #[.val (.ref a1)] [(.int (3 : Int32)), (.int (0 : Int32)), (.int (0 : Int32)), (.ref a1)])) rfl (by rw [hml]; rfl) (argsL := [(.ref a1), (.int (0 : Int32)), (.int (0 : Int32)), (.int (3 : Int32))]) (rest := []) (lenOf pd_7 rfl) rfl (by show 2 * 0 + _ ≤ _; exact Nat.le_of_eq rfl) (hb hby d15_5) (fun _ _ => ⟨rfl, e0, (by decide : 0 + 0 ≤ _), (by decide : 0 + 0 ≤ _)⟩)
  dsimp only [Pt.U, Pt.locs, Pt.cells, Pt.slots] at X2 lq2 yq2 zq2 st2 hQ2
  subst lq2 yq2 zq2
  obtain ⟨rfl, N2q, KC2, u2⟩ := hQ2
  have N2 := Fr.app N0 N2q
  have Z2 : n0 ≤ T2.heap.size := Nat.le_trans Z0 KC2.1
  have K2 : Keep h0 T2.heap [a1] := (Keep.refl h0 [a1]).trans KC2 (allS (Or.inl (own_w 0 rfl)) all0)
  obtain ⟨y2_0, y2_1, y2_2, AV2, so2, pm2⟩ := id u2
  obtain ⟨fs, hr, hrun, hended, hW, hsame⟩ := X2.leave (v := none) (fun _ => rfl) (BodyLoose.notSynchronized Bd)
  refine ⟨_, _, pre0 _ ?_, hrun, hended, _, _, rfl, ?_, ⟨_, rfl⟩, hW, hsame.mono (by decide) (by decide)⟩
  · show Steps p.tables e below (s₁.setTop (mkF m 0 #[.val (.ref a1)] [])) _
    refine XS.aloadN X0.here hx rfl (hb hby d15_0) rfl rfl ?_
    refine XS.iconst X0.here hx rfl (hb hby d15_1) ?_
    refine XS.iconst X0.here hx rfl (hb hby d15_2) ?_
    refine XS.aloadN X0.here hx rfl (hb hby d15_3) rfl rfl ?_
    refine X0.arraylength hx (by rw [e0]; exact Ar1.1) (State.isArrayOf_alike hZ.alike Ar1.2.1) (g := (mkF m 4 #[.val (.ref a1)] [(.ref a1), (.int (0 : Int32)), (.int (0 : Int32)), (.ref a1)])) rfl rfl (hb hby d15_4) _ ?_
    rw [len_of Sz1 Nn1]
    show Steps p.tables e below (s₁.setTop (mkF m 5 #[.val (.ref a1)] [(.int (3 : Int32)), (.int (0 : Int32)), (.int (0 : Int32)), (.ref a1)])) _
    refine st2 _ ?_
    show Steps p.tables e below (T2.setTop (mkF m 8 #[.val (.ref a1)] [])) _
    exact X2.returnOut hx Bd.returns (hb hby d15_8) hr
  · show Qrma3 Z a1 k x0 x1 x2 h0 n0 _ T2.heap _
    exact ⟨rfl, N2, K2, u2⟩
theorem own_pp {i : Nat} (h : i < 8) : own_p i + (2 : Int32) = own_p (i + 1) := (by decide +kernel : ∀ i : Fin 8, own_p i.1 + (2 : Int32) = own_p (i.1 + 1)) ⟨i, h⟩
theorem own_pend {n : Nat} (hn : n = 4 ∨ n = 8) : ¬ own_p n < Int32.ofNat (2 * n) := by rcases hn with rfl | rfl <;> decide
theorem d14_21 : decode prog_19_method_5_code 21 = .ok (.iload_n 2, 1) := by decide +kernel
theorem d14_22 : decode prog_19_method_5_code 22 = .ok (.aload_n 0, 1) := by decide +kernel
theorem d14_23 : decode prog_19_method_5_code 23 = .ok (.getfield 14, 3) := by decide +kernel
theorem d14_26 : decode prog_19_method_5_code 26 = .ok (.arraylength, 1) := by decide +kernel
theorem d14_27 : decode prog_19_method_5_code 27 = .ok (.if_icmp .ge 37, 3) := by decide +kernel
theorem d14_30 : decode prog_19_method_5_code 30 = .ok (.aload_n 0, 1) := by decide +kernel
theorem d14_31 : decode prog_19_method_5_code 31 = .ok (.getfield 14, 3) := by decide +kernel
theorem d14_34 : decode prog_19_method_5_code 34 = .ok (.iload_n 2, 1) := by decide +kernel
theorem d14_35 : decode prog_19_method_5_code 35 = .ok (.laload, 1) := by decide +kernel
theorem d14_36 : decode prog_19_method_5_code 36 = .ok (.ldc2_w 18, 3) := by decide +kernel
theorem d14_39 : decode prog_19_method_5_code 39 = .ok (.lcmp, 1) := by decide +kernel
theorem d14_40 : decode prog_19_method_5_code 40 = .ok (.ifCond .eq 18, 3) := by decide +kernel
theorem d14_43 : decode prog_19_method_5_code 43 = .ok (.aload_n 0, 1) := by decide +kernel
theorem d14_44 : decode prog_19_method_5_code 44 = .ok (.getfield 41, 3) := by decide +kernel
theorem d14_47 : decode prog_19_method_5_code 47 = .ok (.iload_n 1, 1) := by decide +kernel
theorem d14_48 : decode prog_19_method_5_code 48 = .ok (.iinc 1 1, 3) := by decide +kernel
theorem d14_51 : decode prog_19_method_5_code 51 = .ok (.aload_n 0, 1) := by decide +kernel
theorem d14_52 : decode prog_19_method_5_code 52 = .ok (.getfield 14, 3) := by decide +kernel
theorem d14_55 : decode prog_19_method_5_code 55 = .ok (.iload_n 2, 1) := by decide +kernel
theorem d14_56 : decode prog_19_method_5_code 56 = .ok (.laload, 1) := by decide +kernel
theorem d14_57 : decode prog_19_method_5_code 57 = .ok (.lastore, 1) := by decide +kernel
theorem d14_58 : decode prog_19_method_5_code 58 = .ok (.iinc 2 2, 3) := by decide +kernel
theorem d14_61 : decode prog_19_method_5_code 61 = .ok (.goto (-40), 3) := by decide +kernel
set_option maxRecDepth 65536 in
set_option maxHeartbeats 40000000 in
theorem own_sk {p : Program} {l : Launch} {e : Env} {R : Room} {s : State} {m : MethodId} {args : Array Value} {below : List Frame} {meth : Method} {c : Code} {cells slots : Nat} {Z : State} {a0 : Array Value} {a1 a sa : Addr} {k sk : ClassId} {arr : List Int64} {n z : Nat} {n0 : Nat} {hs : Int64 → Nat} {D : Int64 → Prop} {mm : Int64 → Int64} (hx : p.tables.exec = Jvm.exec) (hZ : Z.Warmed39 s.vm) (hw : ∀ d ∈ tables_1, d.before a0 Z = true) (hby : c.code = prog_19_method_5_code) (hml : c.maxLocals = 3) (hown : s.vm.findClass "com/example/pricewright/pricewright/core/LongSumTable" = some m.cls) (hn : n = 4 ∨ n = 8) (hz : z < 4) (Rp : own_Rep (own_K arr) (own_W arr) n hs D mm z) (hna : a ≠ sa) (hn1 : a1 ≠ sa) (gs : n0 ≤ sa) (f : Nat) :
    ∀ (i : Nat), i + f = n → ∀ (T0 : State) (h : Heap) (L0 : List Loc), Stand p l e R s m args below meth c T0 L0 cells slots → T0.heap = h → Fr n0 L0 → n0 ≤ h.size → Fld Z h a1 "com/example/pricewright/pricewright/core/LongSumTable" "slots" "[J" (.ref a) → Fld Z h a1 "com/example/pricewright/pricewright/core/LongSumTable" "sorted" "[J" (.ref sa) → Arv Z h a k .long (Int32.ofNat (2 * n)) (arr.map Value.long) (.long (0 : Int64)) → Arv Z h sa sk .long (Int32.ofNat z) ((own_pad (own_K arr) i z).map Value.long) (.long (0 : Int64)) →
    ∃ (T' : State) (h' : Heap) (L' : List Loc), Stand p l e R s m args below meth c T' L' cells slots ∧ T'.heap = h' ∧ Fr n0 L' ∧ n0 ≤ h'.size ∧ Keep h h' [sa] ∧ Arv Z h' sa sk .long (Int32.ofNat z) ((own_pad (own_K arr) n z).map Value.long) (.long (0 : Int64)) ∧ ∀ target, Steps p.tables e below (T'.setTop (mkF m 64 #[.val (.ref a1), .val (.int (Int32.ofNat (own_cnt (own_K arr) n))), .val (.int (own_p n))] [])) target → Steps p.tables e below (T0.setTop (mkF m 21 #[.val (.ref a1), .val (.int (Int32.ofNat (own_cnt (own_K arr) i))), .val (.int (own_p i))] [])) target := by
  induction f with
  | zero =>
    intro i hin T0 h L0 X0 e0 N0 Z0 FS FQ AV VS
    have hie : n = i := by omega
    obtain ⟨T1, X1, e1, st1⟩ := getF X0 hx hZ hown (host := "") (Or.inl (hw _ (own_w 13 rfl))) Via.refl e0 FS (g := (mkF m 23 #[.val (.ref a1), .val (.int (Int32.ofNat (own_cnt (own_K arr) i))), .val (.int (own_p i))] [(.ref a1), (.int (own_p i))])) rfl rfl (hb hby d14_23)
    obtain ⟨cl2, Ar2, qk2, Sz2, Nn2, Hh2, Gg2⟩ := id (AV)
    refine ⟨T1, _, _, X1, e1, N0, Z0, Keep.refl _ _, by rw [show own_pad (own_K arr) n z = own_pad (own_K arr) i z by rw [hie]]; exact VS, fun target kt => ?_⟩
    rw [show own_cnt (own_K arr) n = own_cnt (own_K arr) i by rw [hie], show own_p n = own_p i by rw [hie]] at kt
    show Steps p.tables e below (T0.setTop (mkF m 21 #[.val (.ref a1), .val (.int (Int32.ofNat (own_cnt (own_K arr) i))), .val (.int (own_p i))] [])) _
    refine XS.iloadN X0.here hx rfl (hb hby d14_21) rfl ?_
    refine XS.aloadN X0.here hx rfl (hb hby d14_22) rfl rfl ?_
    refine st1 _ ?_
    refine X1.arraylength hx (by rw [e1]; exact Ar2.1) (State.isArrayOf_alike hZ.alike Ar2.2.1) (g := (mkF m 26 #[.val (.ref a1), .val (.int (Int32.ofNat (own_cnt (own_K arr) i))), .val (.int (own_p i))] [(.ref a), (.int (own_p i))])) rfl rfl (hb hby d14_26) _ ?_
    rw [len_of Sz2 Nn2]
    show Steps p.tables e below (T1.setTop (mkF m 27 #[.val (.ref a1), .val (.int (Int32.ofNat (own_cnt (own_K arr) i))), .val (.int (own_p i))] [(.int (Int32.ofNat (2 * n))), (.int (own_p i))])) _
    refine XS.icmpYes X1.here hx rfl (pc0 := 27) (pc' := 64) rfl (hb hby d14_27) rfl (flt (by rw [← hie]; exact own_pend hn)).2.1 (by decide) (by decide) ?_
    exact kt
  | succ f ih =>
    intro i hin T0 h L0 X0 e0 N0 Z0 FS FQ AV VS
    have hi : i < n := by omega
    obtain ⟨T1, X1, e1, st1⟩ := getF X0 hx hZ hown (host := "") (Or.inl (hw _ (own_w 13 rfl))) Via.refl e0 FS (g := (mkF m 23 #[.val (.ref a1), .val (.int (Int32.ofNat (own_cnt (own_K arr) i))), .val (.int (own_p i))] [(.ref a1), (.int (own_p i))])) rfl rfl (hb hby d14_23)
    obtain ⟨cl2, Ar2, qk2, Sz2, Nn2, Hh2, Gg2⟩ := id (AV)
    obtain ⟨T3, X3, e3, st3⟩ := getF X1 hx hZ hown (host := "") (Or.inl (hw _ (own_w 13 rfl))) Via.refl e1 FS (g := (mkF m 31 #[.val (.ref a1), .val (.int (Int32.ofNat (own_cnt (own_K arr) i))), .val (.int (own_p i))] [(.ref a1)])) rfl rfl (hb hby d14_31)
    obtain ⟨cl4, Ar4, qk4, Sz4, Nn4, Hh4, Gg4⟩ := id (AV)
    have hin5 : ¬ ((own_p i) < 0 ∨ cl4.slots.size ≤ ((own_p i)).toNatClampNeg) := inb_of Sz4 ⟨own_p0 (own_lt8 hi hn), own_plt hi hn⟩
    have hat5 : cl4.slots[((own_p i)).toNatClampNeg]? = some (.long (own_K arr i)) := Has.at Hh4 hin5 (own_ldK arr (own_lt8 hi hn))
    by_cases hc40 : (own_K arr i) = (-9223372036854775808 : Int64)
    · have VN : Arv Z h sa sk .long (Int32.ofNat z) ((own_pad (own_K arr) (i + 1) z).map Value.long) (.long (0 : Int64)) := by rw [own_padS hc40]; exact VS
      obtain ⟨T', h', L', X', e', N', Z', K', A', st'⟩ := ih (i + 1) (by omega) T3 _ _ X3 e3 N0 Z0 FS FQ AV VN
      refine ⟨T', h', L', X', e', N', Z', K', A', fun target kt => ?_⟩
      have kq := st' target kt
      rw [own_cntS hc40, ← own_pp (own_lt8 hi hn)] at kq
      show Steps p.tables e below (T0.setTop (mkF m 21 #[.val (.ref a1), .val (.int (Int32.ofNat (own_cnt (own_K arr) i))), .val (.int (own_p i))] [])) _
      refine XS.iloadN X0.here hx rfl (hb hby d14_21) rfl ?_
      refine XS.aloadN X0.here hx rfl (hb hby d14_22) rfl rfl ?_
      refine st1 _ ?_
      refine X1.arraylength hx (by rw [e1]; exact Ar2.1) (State.isArrayOf_alike hZ.alike Ar2.2.1) (g := (mkF m 26 #[.val (.ref a1), .val (.int (Int32.ofNat (own_cnt (own_K arr) i))), .val (.int (own_p i))] [(.ref a), (.int (own_p i))])) rfl rfl (hb hby d14_26) _ ?_
      rw [len_of Sz2 Nn2]
      show Steps p.tables e below (T1.setTop (mkF m 27 #[.val (.ref a1), .val (.int (Int32.ofNat (own_cnt (own_K arr) i))), .val (.int (own_p i))] [(.int (Int32.ofNat (2 * n))), (.int (own_p i))])) _
      refine XS.icmpNo X1.here hx rfl (hb hby d14_27) rfl (tlt (own_plt hi hn)).2.1 ?_
      refine XS.aloadN X1.here hx rfl (hb hby d14_30) rfl rfl ?_
      refine st3 _ ?_
      refine XS.iloadN X3.here hx rfl (hb hby d14_34) rfl ?_
      refine X3.laload hx (j := (own_p i)) (v := (.long (own_K arr i))) (by rw [e3]; exact Ar4.1) (State.isArrayOf_alike hZ.alike Ar4.2.1) Ar4.2.2 hin5 hat5 (g := (mkF m 35 #[.val (.ref a1), .val (.int (Int32.ofNat (own_cnt (own_K arr) i))), .val (.int (own_p i))] [(.int (own_p i)), (.ref a)])) rfl rfl (hb hby d14_35) _ ?_
      refine X3.ldc2Long hx hown (mvT hZ (hw _ (own_w 15 rfl))) (g := (mkF m 36 #[.val (.ref a1), .val (.int (Int32.ofNat (own_cnt (own_K arr) i))), .val (.int (own_p i))] [(.long (own_K arr i))])) rfl (hb hby d14_36) _ ?_
      refine XS.lcmp X3.here hx rfl (hb hby d14_39) rfl ?_
      refine XS.ifYes X3.here hx rfl (pc0 := 40) (pc' := 58) rfl (hb hby d14_40) rfl ((if0 _ _).trans (teq (own_lceq hc40)).1) (by decide) (by decide) ?_
      refine XS.iinc X3.here hx rfl (hb hby d14_58) rfl (l' := #[.val (.ref a1), .val (.int (Int32.ofNat (own_cnt (own_K arr) i))), .val (.int ((own_p i) + (2 : Int32)))]) rfl ?_
      refine XS.goto X3.here hx rfl (pc0 := 61) (pc' := 21) rfl (hb hby d14_61) (by decide) (by decide) ?_
      exact kq
    · obtain ⟨T6, X6, e6, st6⟩ := getF X3 hx hZ hown (host := "") (Or.inl (hw _ (own_w 40 rfl))) Via.refl e3 FQ (g := (mkF m 44 #[.val (.ref a1), .val (.int (Int32.ofNat (own_cnt (own_K arr) i))), .val (.int (own_p i))] [(.ref a1)])) rfl rfl (hb hby d14_44)
      obtain ⟨T7, X7, e7, st7⟩ := getF X6 hx hZ hown (host := "") (Or.inl (hw _ (own_w 13 rfl))) Via.refl e6 FS (g := (mkF m 52 #[.val (.ref a1), .val (.int ((Int32.ofNat (own_cnt (own_K arr) i)) + (1 : Int32))), .val (.int (own_p i))] [(.ref a1), (.int (Int32.ofNat (own_cnt (own_K arr) i))), (.ref sa)])) rfl rfl (hb hby d14_52)
      obtain ⟨cl8, Ar8, qk8, Sz8, Nn8, Hh8, Gg8⟩ := id (AV)
      have hin9 : ¬ ((own_p i) < 0 ∨ cl8.slots.size ≤ ((own_p i)).toNatClampNeg) := inb_of Sz8 ⟨own_p0 (own_lt8 hi hn), own_plt hi hn⟩
      have hat9 : cl8.slots[((own_p i)).toNatClampNeg]? = some (.long (own_K arr i)) := Has.at Hh8 hin9 (own_ldK arr (own_lt8 hi hn))
      have hlt : own_cnt (own_K arr) i < z := by have w1 := own_cnt_mono (own_K arr) (show i + 1 ≤ n by omega); have w2 : own_cnt (own_K arr) (i + 1) = own_cnt (own_K arr) i + 1 := own_cntP hc40; have w3 := Rp.2.2.2; omega
      have hc3 := own_c3 (c := own_cnt (own_K arr) i) (by omega)
      obtain ⟨cl10, Ar10, qk10, Sz10, Nn10, Hh10, Gg10⟩ := id (VS)
      have hin11 : ¬ ((Int32.ofNat (own_cnt (own_K arr) i)) < 0 ∨ cl10.slots.size ≤ ((Int32.ofNat (own_cnt (own_K arr) i))).toNatClampNeg) := inb_of Sz10 ⟨hc3.2, own_c3lt hlt (by omega)⟩
      obtain ⟨T11, h11, X11, e11, W11, st11⟩ := stJ X7 hx hZ e7 Ar10 (j := (Int32.ofNat (own_cnt (own_K arr) i))) hin11 (g := (mkF m 57 #[.val (.ref a1), .val (.int ((Int32.ofNat (own_cnt (own_K arr) i)) + (1 : Int32))), .val (.int (own_p i))] [(.long (own_K arr i)), (.int (Int32.ofNat (own_cnt (own_K arr) i))), (.ref sa)])) rfl rfl (hb hby d14_57)
      have N11 := Fr.snoc X11 N0 gs
      have Z11 : n0 ≤ h11.size := by rw [W11.size]; exact Z0
      have V11 : Arv Z h11 sa sk .long (Int32.ofNat z) (((own_pad (own_K arr) i z).set (own_cnt (own_K arr) i) (own_K arr i)).map Value.long) (.long (0 : Int64)) := by
        have q := Arv.set Ar10 qk10 Sz10 Nn10 Hh10 Gg10 rfl W11 (own_cnt (own_K arr) i) hc3.1 (by rw [List.length_map, own_pad_len _ (by omega)]; exact hlt)
        rw [List.map_set]; exact q
      have VN : Arv Z h11 sa sk .long (Int32.ofNat z) ((own_pad (own_K arr) (i + 1) z).map Value.long) (.long (0 : Int64)) := by rw [own_padP hc40 hlt]; exact V11
      have f12 := (FS.other W11 (Or.inl hn1))
      have f13 := (FQ.other W11 (Or.inl hn1))
      have f14 := (AV.other W11 hna)
      obtain ⟨T', h', L', X', e', N', Z', K', A', st'⟩ := ih (i + 1) (by omega) T11 _ _ X11 e11 N11 Z11 f12 f13 f14 VN
      refine ⟨T', h', L', X', e', N', Z', (Keep.of_wr W11).trans K' (allS (Or.inl (own_w 0 rfl)) all0), A', fun target kt => ?_⟩
      have kq := st' target kt
      rw [own_cntP hc40, ← own_c3s (by omega), ← own_pp (own_lt8 hi hn)] at kq
      show Steps p.tables e below (T0.setTop (mkF m 21 #[.val (.ref a1), .val (.int (Int32.ofNat (own_cnt (own_K arr) i))), .val (.int (own_p i))] [])) _
      refine XS.iloadN X0.here hx rfl (hb hby d14_21) rfl ?_
      refine XS.aloadN X0.here hx rfl (hb hby d14_22) rfl rfl ?_
      refine st1 _ ?_
      refine X1.arraylength hx (by rw [e1]; exact Ar2.1) (State.isArrayOf_alike hZ.alike Ar2.2.1) (g := (mkF m 26 #[.val (.ref a1), .val (.int (Int32.ofNat (own_cnt (own_K arr) i))), .val (.int (own_p i))] [(.ref a), (.int (own_p i))])) rfl rfl (hb hby d14_26) _ ?_
      rw [len_of Sz2 Nn2]
      show Steps p.tables e below (T1.setTop (mkF m 27 #[.val (.ref a1), .val (.int (Int32.ofNat (own_cnt (own_K arr) i))), .val (.int (own_p i))] [(.int (Int32.ofNat (2 * n))), (.int (own_p i))])) _
      refine XS.icmpNo X1.here hx rfl (hb hby d14_27) rfl (tlt (own_plt hi hn)).2.1 ?_
      refine XS.aloadN X1.here hx rfl (hb hby d14_30) rfl rfl ?_
      refine st3 _ ?_
      refine XS.iloadN X3.here hx rfl (hb hby d14_34) rfl ?_
      refine X3.laload hx (j := (own_p i)) (v := (.long (own_K arr i))) (by rw [e3]; exact Ar4.1) (State.isArrayOf_alike hZ.alike Ar4.2.1) Ar4.2.2 hin5 hat5 (g := (mkF m 35 #[.val (.ref a1), .val (.int (Int32.ofNat (own_cnt (own_K arr) i))), .val (.int (own_p i))] [(.int (own_p i)), (.ref a)])) rfl rfl (hb hby d14_35) _ ?_
      refine X3.ldc2Long hx hown (mvT hZ (hw _ (own_w 15 rfl))) (g := (mkF m 36 #[.val (.ref a1), .val (.int (Int32.ofNat (own_cnt (own_K arr) i))), .val (.int (own_p i))] [(.long (own_K arr i))])) rfl (hb hby d14_36) _ ?_
      refine XS.lcmp X3.here hx rfl (hb hby d14_39) rfl ?_
      refine XS.ifNo X3.here hx rfl (hb hby d14_40) rfl ((if0 _ _).trans (feq (own_lcne hc40)).1) ?_
      refine XS.aloadN X3.here hx rfl (hb hby d14_43) rfl rfl ?_
      refine st6 _ ?_
      refine XS.iloadN X6.here hx rfl (hb hby d14_47) rfl ?_
      refine XS.iinc X6.here hx rfl (hb hby d14_48) rfl (l' := #[.val (.ref a1), .val (.int ((Int32.ofNat (own_cnt (own_K arr) i)) + (1 : Int32))), .val (.int (own_p i))]) rfl ?_
      refine XS.aloadN X6.here hx rfl (hb hby d14_51) rfl rfl ?_
      refine st7 _ ?_
      refine XS.iloadN X7.here hx rfl (hb hby d14_55) rfl ?_
      refine X7.laload hx (j := (own_p i)) (v := (.long (own_K arr i))) (by rw [e7]; exact Ar8.1) (State.isArrayOf_alike hZ.alike Ar8.2.1) Ar8.2.2 hin9 hat9 (g := (mkF m 56 #[.val (.ref a1), .val (.int ((Int32.ofNat (own_cnt (own_K arr) i)) + (1 : Int32))), .val (.int (own_p i))] [(.int (own_p i)), (.ref a), (.int (Int32.ofNat (own_cnt (own_K arr) i))), (.ref sa)])) rfl rfl (hb hby d14_56) _ ?_
      refine st11 _ ?_
      refine XS.iinc X11.here hx rfl (hb hby d14_58) rfl (l' := #[.val (.ref a1), .val (.int ((Int32.ofNat (own_cnt (own_K arr) i)) + (1 : Int32))), .val (.int ((own_p i) + (2 : Int32)))]) rfl ?_
      refine XS.goto X11.here hx rfl (pc0 := 61) (pc' := 21) rfl (hb hby d14_61) (by decide) (by decide) ?_
      exact kq
theorem pd_8 : parseMethodDescriptor "([J)V" = some ⟨[(.array .long)], none⟩ := by decide +kernel
theorem d14_0 : decode prog_19_method_5_code 0 = .ok (.aload_n 0, 1) := by decide +kernel
theorem d14_1 : decode prog_19_method_5_code 1 = .ok (.getfield 41, 3) := by decide +kernel
theorem d14_4 : decode prog_19_method_5_code 4 = .ok (.ifnonnull 67, 3) := by decide +kernel
theorem d14_7 : decode prog_19_method_5_code 7 = .ok (.aload_n 0, 1) := by decide +kernel
theorem d14_8 : decode prog_19_method_5_code 8 = .ok (.aload_n 0, 1) := by decide +kernel
theorem d14_9 : decode prog_19_method_5_code 9 = .ok (.getfield 44, 3) := by decide +kernel
theorem d14_12 : decode prog_19_method_5_code 12 = .ok (.newarray .long, 2) := by decide +kernel
theorem d14_14 : decode prog_19_method_5_code 14 = .ok (.putfield 41, 3) := by decide +kernel
theorem d14_17 : decode prog_19_method_5_code 17 = .ok (.iconst 0, 1) := by decide +kernel
theorem d14_18 : decode prog_19_method_5_code 18 = .ok (.istore_n 1, 1) := by decide +kernel
theorem d14_19 : decode prog_19_method_5_code 19 = .ok (.iconst 0, 1) := by decide +kernel
theorem d14_20 : decode prog_19_method_5_code 20 = .ok (.istore_n 2, 1) := by decide +kernel
theorem d14_64 : decode prog_19_method_5_code 64 = .ok (.aload_n 0, 1) := by decide +kernel
theorem d14_65 : decode prog_19_method_5_code 65 = .ok (.getfield 41, 3) := by decide +kernel
theorem d14_68 : decode prog_19_method_5_code 68 = .ok (.invokestatic 50, 3) := by decide +kernel
theorem d14_71 : decode prog_19_method_5_code 71 = .ok (.aload_n 0, 1) := by decide +kernel
theorem d14_72 : decode prog_19_method_5_code 72 = .ok (.getfield 41, 3) := by decide +kernel
theorem d14_75 : decode prog_19_method_5_code 75 = .ok (.areturn, 1) := by decide +kernel
theorem pn_14 : plainName "com/example/pricewright/pricewright/core/LongSumTable" = true := by first | (simp [plainName, overriddenIn]; done) | decide +kernel
theorem ef_rmK4_0 (m : MethodId) (a1 : Addr) : entryFrame m #[(.ref a1)] 3 = mkF m 0 #[.val (.ref a1), .unset, .unset] [] := by first | (simp [entryFrame, mkF, argsToLocals, Value.category]; done) | rfl
def QrmK4_0 (Z : State) (a1 : Addr) (a : Addr) (k : ClassId) (arr : List Int64) (D : Int64 → Prop) (mm : Int64 → Int64) (h0 : Heap) (n0 : Nat) (v : Option Value) (h : Heap) (L : List Loc) : Prop := ∃ (sa : Addr) (sk : ClassId), v = some (.ref sa) ∧ Fr n0 L ∧ Keep h0 h [a1] ∧ n0 ≤ sa ∧ h0.size ≤ sa ∧ Exa Z h a1 "com/example/pricewright/pricewright/core/LongSumTable" ∧ Fld Z h a1 "com/example/pricewright/pricewright/core/LongSumTable" "slots" "[J" (.ref a) ∧ Fld Z h a1 "com/example/pricewright/pricewright/core/LongSumTable" "shift" "I" (.int (62 : Int32)) ∧ Fld Z h a1 "com/example/pricewright/pricewright/core/LongSumTable" "size" "I" (.int (0 : Int32)) ∧ Fld Z h a1 "com/example/pricewright/pricewright/core/LongSumTable" "sorted" "[J" (.ref sa) ∧ Arv Z h sa sk .long (0 : Int32) [] (.long (0 : Int64)) ∧ (True) ∧ ∀ x, D x ↔ (False)
set_option maxRecDepth 65536 in
set_option maxHeartbeats 40000000 in
theorem rmK4_0 (l : Launch) (Z : State) (a0 : Array Value) (hw : ∀ d ∈ tables_1, d.before a0 Z = true) (ws : List Jvm.Cond) (a1 : Addr) (a : Addr) (k : ClassId) (arr : List Int64) (D : Int64 → Prop) (mm : Int64 → Int64) (h0 : Heap) (n0 : Nat) (Z0 : n0 ≤ h0.size) (E : Exa Z h0 a1 "com/example/pricewright/pricewright/core/LongSumTable") (FS : Fld Z h0 a1 "com/example/pricewright/pricewright/core/LongSumTable" "slots" "[J" (.ref a)) (FH : Fld Z h0 a1 "com/example/pricewright/pricewright/core/LongSumTable" "shift" "I" (.int (62 : Int32))) (FZ : Fld Z h0 a1 "com/example/pricewright/pricewright/core/LongSumTable" "size" "I" (.int (0 : Int32))) (FQ : Fld Z h0 a1 "com/example/pricewright/pricewright/core/LongSumTable" "sorted" "[J" .null) (AV : Arv Z h0 a k .long (8 : Int32) (arr.map Value.long) (.long (0 : Int64))) (hne : a1 ≠ a) (ga1 : n0 ≤ a1) (Rp : own_Rep (own_K arr) (own_W arr) 4 (own_hs 4) D mm 0) :
    MetFree l (⟨"com/example/pricewright/pricewright/core/LongSumTable", "sortedKeys", "()[J"⟩ : MethodName) (head1 (Jvm.Cond.code (⟨"com/example/pricewright/pricewright/core/LongSumTable", "sortedKeys", "()[J"⟩ : MethodName) prog_19_method_5_code 3 (some (.array .long)) :: ws) ({ frames := 4, cells := 1, slots := 0, locals := 84 } : Room)) (fun a U => a = #[(.ref a1)] ∧ Z.Warmed39 U.vm ∧ U.heap = h0) (fun _ _ _ _ _ => True) (fun _ U o U' => ∃ v L, o = .returned v ∧ QrmK4_0 Z a1 a k arr D mm h0 n0 v U'.heap L ∧ FrameEnd U o U' L ({ frames := 4, cells := 1, slots := 0, locals := 84 } : Room).cells ({ frames := 4, cells := 1, slots := 0, locals := 84 } : Room).slots) := by
  refine MetFree.of_bodySF (plainFor_of_name pn_14) hisR ?_
  intro p e s m args below meth c s₁ Bd hml0 hP hK
  obtain ⟨rfl, hZ, hh⟩ := hP
  have hx := Bd.exec
  have hby := Bd.bytes
  have hml : c.maxLocals = 3 := hml0
  have hown : s.vm.findClass "com/example/pricewright/pricewright/core/LongSumTable" = some m.cls := findClass_of_methodNamed Bd.named
  have hnm := (name_of_methodNamed Bd.named Bd.method).1
  have X0 : Stand p l e ({ frames := 4, cells := 1, slots := 0, locals := 84 } : Room) s m #[(.ref a1)] below meth c s₁ [] 0 0 := Stand.of_body Bd
  have e0 : s₁.heap = h0 := by rw [← hh, Bd.state]; rfl
  have N0 := Fr.nil n0
  have pre0 : ∀ t, Steps p.tables e below (s₁.setTop (mkF m 0 #[.val (.ref a1), .unset, .unset] [])) t → Steps p.tables e below (s₁.setTop (entryFrame m #[(.ref a1)] 3)) t := fun t k => castTop (ef_rmK4_0 m a1) k
  obtain ⟨T1, X1, e1, st1⟩ := getF X0 hx hZ hown (host := "") (Or.inl (hw _ (own_w 40 rfl))) Via.refl e0 FQ (g := (mkF m 1 #[.val (.ref a1), .unset, .unset] [(.ref a1)])) rfl rfl (hb hby d14_1)
  obtain ⟨T2, X2, e2, st2⟩ := getF X1 hx hZ hown (host := "") (Or.inl (hw _ (own_w 42 rfl))) Via.refl e1 FZ (g := (mkF m 9 #[.val (.ref a1), .unset, .unset] [(.ref a1), (.ref a1)])) rfl rfl (hb hby d14_9)
  obtain ⟨T3, h3, ck3, X3, e3, E3, A3, st3⟩ := newP X2 hx hZ (hw _ (own_w 12 rfl)) e2 (g := (mkF m 12 #[.val (.ref a1), .unset, .unset] [(.int (0 : Int32)), (.ref a1)])) rfl (hb hby d14_12) rfl (by decide) (cap := 0) (by decide) (by decide) (by decide) (by decide)
  obtain ⟨b3o, g3⟩ : ∃ z, z = h0.size := ⟨_, rfl⟩
  have b3 : n0 ≤ b3o := Nat.le_trans Z0 (Nat.le_of_eq g3.symm)
  have bk3 : h0.size ≤ b3o := Nat.le_trans (Keep.refl h0 [a1]).1 (Nat.le_of_eq g3.symm)
  have ne4 : a1 ≠ b3o := Nat.ne_of_lt (Nat.lt_of_lt_of_le E.lt (Nat.le_of_eq g3.symm))
  have ne5 : a ≠ b3o := Nat.ne_of_lt (Nat.lt_of_lt_of_le AV.lt (Nat.le_of_eq g3.symm))
  rw [← g3] at A3 st3
  have Z3 : n0 ≤ h3.size := Nat.le_trans Z0 E3.1
  have K3 : Keep h0 h3 [a1] := (Keep.refl h0 [a1]).ext E3
  have V3 : Arv Z h3 b3o ck3 .long (0 : Int32) [] (.long (0 : Int64)) := (Arv.new A3 (by decide)).pad (pad_rep [] (.long (0 : Int64)) 0)
  have f6 := (E.ext E3)
  have f7 := (FQ.ext E3)
  obtain ⟨T8, h8, X8, e8, W8, st8⟩ := putF X3 hx hZ hown (host := "") (Or.inl (hw _ (own_w 40 rfl))) Via.refl e3 f7 f6 (Or.inl (hw _ (own_w 41 rfl))) (hw _ (own_w 1 rfl)) (ty := (.array .long)) (by decide) rfl rfl (g := (mkF m 14 #[.val (.ref a1), .unset, .unset] [(.ref b3o), (.ref a1)])) rfl rfl (hb hby d14_14)
  have N8 := Fr.snoc X8 N0 ga1
  have Z8 : n0 ≤ h8.size := by rw [W8.size]; exact Z3
  have K8 : Keep h0 h8 [a1] := K3.wr W8 (Or.inl (own_w 0 rfl))
  have Fw8 := f7.same W8
  have f10 := (V3.other W8 (Ne.symm ne4))
  have VP9 : Arv Z h8 b3o ck3 .long (Int32.ofNat 0) ((own_pad (own_K arr) 0 0).map Value.long) (.long (0 : Int64)) := f10
  have f11 := ((FS.ext E3).other W8 (Or.inr (slot_ne (Or.inl (hw _ (own_w 14 rfl))) (Or.inl (hw _ (own_w 41 rfl))) (by decide) (t := (.array .long)) (t' := (.array .long)) (by decide) (by decide))))
  have f12 := ((AV.ext E3).other W8 (Ne.symm hne))
  obtain ⟨T9, h9, L9, X9, e9, N9, Z9, KT9, AV9, st9⟩ := own_sk (n := 4) (z := 0) hx hZ hw hby hml hown (Or.inl rfl) (by decide) Rp ne5 ne4 b3 4 0 rfl _ _ _ X8 e8 N8 Z8 f11 Fw8 f12 VP9
  have K9 : Keep h0 h9 [a1] := K8.trans KT9 (allS (Or.inr bk3) all0)
  have dk := own_dom_ks Rp
  have pf := own_pad_full Rp.2.2.2
  have hx13 : own_ks (own_K arr) 4 = [] := List.eq_nil_of_length_eq_zero dk.2.2
  have VX13 := AV9
  rw [pf, hx13] at VX13
  have f14 := (Fw8.keep KT9 (ninS ne4 nin0))
  obtain ⟨T15, X15, e15, st15⟩ := getF X9 hx hZ hown (host := "") (Or.inl (hw _ (own_w 40 rfl))) Via.refl e9 f14 (g := (mkF m 65 #[.val (.ref a1), .val (.int (Int32.ofNat (own_cnt (own_K arr) 4))), .val (.int (own_p 4))] [(.ref a1)])) rfl rfl (hb hby d14_65)
  obtain ⟨_, _, ⟨T16, Lq16, kq16, nq16⟩, -, X16, ⟨Lc16, hQ16, lq16, yq16, zq16⟩, st16⟩ := Jvm.LawKit.callS X15 hx (y := (⟨"java/util/Arrays", "sort", "([J)V"⟩ : MethodName)) hown (mvT hZ (hw _ (own_w 71 rfl))) (mvT hZ (hw _ (own_w 72 rfl))) (mvT hZ (hw _ (own_w 73 rfl))) (mvT hZ (hw _ (own_w 74 rfl))) (by decide) (backOf (W := 0) (rma0 l Z a0 hw [] b3o ck3  h9 n0 Z9 VX13 b3) hZ (hw _ (own_w 74 rfl)) (hw _ (own_w 73 rfl)) (by decide) (by decide)) (g := (mkF m 68 #[.val (.ref a1), .val (.int (Int32.ofNat (own_cnt (own_K arr) 4))), .val (.int (own_p 4))] [(.ref b3o)])) rfl (by rw [hml]; rfl) (argsL := [(.ref b3o)]) (rest := []) (lenOf pd_8 rfl) rfl (by show 2 * 0 + _ ≤ _; exact Nat.le_of_eq rfl) (hb hby d14_68) (fun _ _ => ⟨rfl, e15, (by decide : 1 + 0 ≤ _), (by decide : 0 + 0 ≤ _)⟩)
  dsimp only [Pt.U, Pt.locs, Pt.cells, Pt.slots] at X16 lq16 yq16 zq16 st16 hQ16
  subst lq16 yq16 zq16
  obtain ⟨rfl, N16q, KC16, u16⟩ := hQ16
  have N16 := Fr.app N9 N16q
  have Z16 : n0 ≤ T16.heap.size := Nat.le_trans Z9 KC16.1
  have K16 : Keep h0 T16.heap [a1] := K9.trans KC16 (allS (Or.inr bk3) all0)
  obtain ⟨AV16, so16, pm16⟩ := id u16
  have f17 := (f14.keep KC16 (ninS ne4 nin0))
  obtain ⟨T18, X18, e18, st18⟩ := getF X16 hx hZ hown (host := "") (Or.inl (hw _ (own_w 40 rfl))) Via.refl rfl f17 (g := (mkF m 72 #[.val (.ref a1), .val (.int (Int32.ofNat (own_cnt (own_K arr) 4))), .val (.int (own_p 4))] [(.ref a1)])) rfl rfl (hb hby d14_72)
  obtain ⟨fs, hr, hrun, hended, hW, hsame⟩ := X18.leave (v := some (.ref b3o)) (fun h => by rw [Bd.returns] at h; cases h) (BodyLoose.notSynchronized Bd)
  refine ⟨_, _, pre0 _ ?_, hrun, hended, _, _, rfl, ?_, ⟨_, rfl⟩, hW, hsame.mono (by decide) (by decide)⟩
  · show Steps p.tables e below (s₁.setTop (mkF m 0 #[.val (.ref a1), .unset, .unset] [])) _
    refine XS.aloadN X0.here hx rfl (hb hby d14_0) rfl rfl ?_
    refine st1 _ ?_
    refine XS.ifnonnullNo X1.here hx rfl (hb hby d14_4) rfl ?_
    refine XS.aloadN X1.here hx rfl (hb hby d14_7) rfl rfl ?_
    refine XS.aloadN X1.here hx rfl (hb hby d14_8) rfl rfl ?_
    refine st2 _ ?_
    refine st3 _ ?_
    refine st8 _ ?_
    refine XS.iconst X8.here hx rfl (hb hby d14_17) ?_
    refine XS.istoreN X8.here hx rfl (hb hby d14_18) rfl (l' := #[.val (.ref a1), .val (.int (0 : Int32)), .unset]) rfl ?_
    refine XS.iconst X8.here hx rfl (hb hby d14_19) ?_
    refine XS.istoreN X8.here hx rfl (hb hby d14_20) rfl (l' := #[.val (.ref a1), .val (.int (0 : Int32)), .val (.int (0 : Int32))]) rfl ?_
    refine st9 _ ?_
    refine XS.aloadN X9.here hx rfl (hb hby d14_64) rfl rfl ?_
    refine st15 _ ?_
    refine st16 _ ?_
    refine XS.aloadN X16.here hx rfl (hb hby d14_71) rfl rfl ?_
    refine st18 _ ?_
    show Steps p.tables e below (T18.setTop (mkF m 75 #[.val (.ref a1), .val (.int (Int32.ofNat (own_cnt (own_K arr) 4))), .val (.int (own_p 4))] [(.ref b3o)])) _
    exact X18.areturnOut hx rfl Bd.returns rfl (hb hby d14_75) hr
  · show QrmK4_0 Z a1 a k arr D mm h0 n0 _ T18.heap _
    have f19 := (((f6.wr W8).keep KT9).keep KC16)
    have f20 := ((f11.keep KT9 (ninS ne4 nin0)).keep KC16 (ninS ne4 nin0))
    have f21 := ((((FH.ext E3).other W8 (Or.inr (slot_ne (Or.inl (hw _ (own_w 26 rfl))) (Or.inl (hw _ (own_w 41 rfl))) (by decide) (t := .int) (t' := (.array .long)) (by decide) (by decide)))).keep KT9 (ninS ne4 nin0)).keep KC16 (ninS ne4 nin0))
    have f22 := ((((FZ.ext E3).other W8 (Or.inr (slot_ne (Or.inl (hw _ (own_w 43 rfl))) (Or.inl (hw _ (own_w 41 rfl))) (by decide) (t := .int) (t' := (.array .long)) (by decide) (by decide)))).keep KT9 (ninS ne4 nin0)).keep KC16 (ninS ne4 nin0))
    rw [e18]
    have dm := dk.1
    rw [hx13] at dm
    refine ⟨b3o, _, rfl, N16, K16, b3, bk3, f19, f20, f21, f22, f17, AV16, trivial, fun x => Iff.intro (fun w => absurd ((dm x).mp w) List.not_mem_nil) (fun w => w.elim)⟩
theorem ef_rmK4_1 (m : MethodId) (a1 : Addr) : entryFrame m #[(.ref a1)] 3 = mkF m 0 #[.val (.ref a1), .unset, .unset] [] := by first | (simp [entryFrame, mkF, argsToLocals, Value.category]; done) | rfl
def QrmK4_1 (Z : State) (a1 : Addr) (a : Addr) (k : ClassId) (arr : List Int64) (D : Int64 → Prop) (mm : Int64 → Int64) (h0 : Heap) (n0 : Nat) (v : Option Value) (h : Heap) (L : List Loc) : Prop := ∃ (sa : Addr) (sk : ClassId) (y0 : Int64), v = some (.ref sa) ∧ Fr n0 L ∧ Keep h0 h [a1] ∧ n0 ≤ sa ∧ h0.size ≤ sa ∧ Exa Z h a1 "com/example/pricewright/pricewright/core/LongSumTable" ∧ Fld Z h a1 "com/example/pricewright/pricewright/core/LongSumTable" "slots" "[J" (.ref a) ∧ Fld Z h a1 "com/example/pricewright/pricewright/core/LongSumTable" "shift" "I" (.int (62 : Int32)) ∧ Fld Z h a1 "com/example/pricewright/pricewright/core/LongSumTable" "size" "I" (.int (1 : Int32)) ∧ Fld Z h a1 "com/example/pricewright/pricewright/core/LongSumTable" "sorted" "[J" (.ref sa) ∧ Arv Z h sa sk .long (1 : Int32) [.long y0] (.long (0 : Int64)) ∧ (True) ∧ ∀ x, D x ↔ (x = y0)
set_option maxRecDepth 65536 in
set_option maxHeartbeats 40000000 in
theorem rmK4_1 (l : Launch) (Z : State) (a0 : Array Value) (hw : ∀ d ∈ tables_1, d.before a0 Z = true) (ws : List Jvm.Cond) (a1 : Addr) (a : Addr) (k : ClassId) (arr : List Int64) (D : Int64 → Prop) (mm : Int64 → Int64) (h0 : Heap) (n0 : Nat) (Z0 : n0 ≤ h0.size) (E : Exa Z h0 a1 "com/example/pricewright/pricewright/core/LongSumTable") (FS : Fld Z h0 a1 "com/example/pricewright/pricewright/core/LongSumTable" "slots" "[J" (.ref a)) (FH : Fld Z h0 a1 "com/example/pricewright/pricewright/core/LongSumTable" "shift" "I" (.int (62 : Int32))) (FZ : Fld Z h0 a1 "com/example/pricewright/pricewright/core/LongSumTable" "size" "I" (.int (1 : Int32))) (FQ : Fld Z h0 a1 "com/example/pricewright/pricewright/core/LongSumTable" "sorted" "[J" .null) (AV : Arv Z h0 a k .long (8 : Int32) (arr.map Value.long) (.long (0 : Int64))) (hne : a1 ≠ a) (ga1 : n0 ≤ a1) (Rp : own_Rep (own_K arr) (own_W arr) 4 (own_hs 4) D mm 1) :
    MetFree l (⟨"com/example/pricewright/pricewright/core/LongSumTable", "sortedKeys", "()[J"⟩ : MethodName) (head1 (Jvm.Cond.code (⟨"com/example/pricewright/pricewright/core/LongSumTable", "sortedKeys", "()[J"⟩ : MethodName) prog_19_method_5_code 3 (some (.array .long)) :: ws) ({ frames := 4, cells := 1, slots := 1, locals := 84 } : Room)) (fun a U => a = #[(.ref a1)] ∧ Z.Warmed39 U.vm ∧ U.heap = h0) (fun _ _ _ _ _ => True) (fun _ U o U' => ∃ v L, o = .returned v ∧ QrmK4_1 Z a1 a k arr D mm h0 n0 v U'.heap L ∧ FrameEnd U o U' L ({ frames := 4, cells := 1, slots := 1, locals := 84 } : Room).cells ({ frames := 4, cells := 1, slots := 1, locals := 84 } : Room).slots) := by
  refine MetFree.of_bodySF (plainFor_of_name pn_14) hisR ?_
  intro p e s m args below meth c s₁ Bd hml0 hP hK
  obtain ⟨rfl, hZ, hh⟩ := hP
  have hx := Bd.exec
  have hby := Bd.bytes
  have hml : c.maxLocals = 3 := hml0
  have hown : s.vm.findClass "com/example/pricewright/pricewright/core/LongSumTable" = some m.cls := findClass_of_methodNamed Bd.named
  have hnm := (name_of_methodNamed Bd.named Bd.method).1
  have X0 : Stand p l e ({ frames := 4, cells := 1, slots := 1, locals := 84 } : Room) s m #[(.ref a1)] below meth c s₁ [] 0 0 := Stand.of_body Bd
  have e0 : s₁.heap = h0 := by rw [← hh, Bd.state]; rfl
  have N0 := Fr.nil n0
  have pre0 : ∀ t, Steps p.tables e below (s₁.setTop (mkF m 0 #[.val (.ref a1), .unset, .unset] [])) t → Steps p.tables e below (s₁.setTop (entryFrame m #[(.ref a1)] 3)) t := fun t k => castTop (ef_rmK4_1 m a1) k
  obtain ⟨T1, X1, e1, st1⟩ := getF X0 hx hZ hown (host := "") (Or.inl (hw _ (own_w 40 rfl))) Via.refl e0 FQ (g := (mkF m 1 #[.val (.ref a1), .unset, .unset] [(.ref a1)])) rfl rfl (hb hby d14_1)
  obtain ⟨T2, X2, e2, st2⟩ := getF X1 hx hZ hown (host := "") (Or.inl (hw _ (own_w 42 rfl))) Via.refl e1 FZ (g := (mkF m 9 #[.val (.ref a1), .unset, .unset] [(.ref a1), (.ref a1)])) rfl rfl (hb hby d14_9)
  obtain ⟨T3, h3, ck3, X3, e3, E3, A3, st3⟩ := newP X2 hx hZ (hw _ (own_w 12 rfl)) e2 (g := (mkF m 12 #[.val (.ref a1), .unset, .unset] [(.int (1 : Int32)), (.ref a1)])) rfl (hb hby d14_12) rfl (by decide) (cap := 1) (by decide) (by decide) (by decide) (by decide)
  obtain ⟨b3o, g3⟩ : ∃ z, z = h0.size := ⟨_, rfl⟩
  have b3 : n0 ≤ b3o := Nat.le_trans Z0 (Nat.le_of_eq g3.symm)
  have bk3 : h0.size ≤ b3o := Nat.le_trans (Keep.refl h0 [a1]).1 (Nat.le_of_eq g3.symm)
  have ne4 : a1 ≠ b3o := Nat.ne_of_lt (Nat.lt_of_lt_of_le E.lt (Nat.le_of_eq g3.symm))
  have ne5 : a ≠ b3o := Nat.ne_of_lt (Nat.lt_of_lt_of_le AV.lt (Nat.le_of_eq g3.symm))
  rw [← g3] at A3 st3
  have Z3 : n0 ≤ h3.size := Nat.le_trans Z0 E3.1
  have K3 : Keep h0 h3 [a1] := (Keep.refl h0 [a1]).ext E3
  have V3 : Arv Z h3 b3o ck3 .long (1 : Int32) [(.long (0 : Int64))] (.long (0 : Int64)) := (Arv.new A3 (by decide)).pad (pad_rep [] (.long (0 : Int64)) 1)
  have f6 := (E.ext E3)
  have f7 := (FQ.ext E3)
  obtain ⟨T8, h8, X8, e8, W8, st8⟩ := putF X3 hx hZ hown (host := "") (Or.inl (hw _ (own_w 40 rfl))) Via.refl e3 f7 f6 (Or.inl (hw _ (own_w 41 rfl))) (hw _ (own_w 1 rfl)) (ty := (.array .long)) (by decide) rfl rfl (g := (mkF m 14 #[.val (.ref a1), .unset, .unset] [(.ref b3o), (.ref a1)])) rfl rfl (hb hby d14_14)
  have N8 := Fr.snoc X8 N0 ga1
  have Z8 : n0 ≤ h8.size := by rw [W8.size]; exact Z3
  have K8 : Keep h0 h8 [a1] := K3.wr W8 (Or.inl (own_w 0 rfl))
  have Fw8 := f7.same W8
  have f10 := (V3.other W8 (Ne.symm ne4))
  have VP9 : Arv Z h8 b3o ck3 .long (Int32.ofNat 1) ((own_pad (own_K arr) 0 1).map Value.long) (.long (0 : Int64)) := f10
  have f11 := ((FS.ext E3).other W8 (Or.inr (slot_ne (Or.inl (hw _ (own_w 14 rfl))) (Or.inl (hw _ (own_w 41 rfl))) (by decide) (t := (.array .long)) (t' := (.array .long)) (by decide) (by decide))))
  have f12 := ((AV.ext E3).other W8 (Ne.symm hne))
  obtain ⟨T9, h9, L9, X9, e9, N9, Z9, KT9, AV9, st9⟩ := own_sk (n := 4) (z := 1) hx hZ hw hby hml hown (Or.inl rfl) (by decide) Rp ne5 ne4 b3 4 0 rfl _ _ _ X8 e8 N8 Z8 f11 Fw8 f12 VP9
  have K9 : Keep h0 h9 [a1] := K8.trans KT9 (allS (Or.inr bk3) all0)
  have dk := own_dom_ks Rp
  have pf := own_pad_full Rp.2.2.2
  obtain ⟨x13_0, hx13⟩ := own_l1 dk.2.2
  have VX13 := AV9
  rw [pf, hx13] at VX13
  have f14 := (Fw8.keep KT9 (ninS ne4 nin0))
  obtain ⟨T15, X15, e15, st15⟩ := getF X9 hx hZ hown (host := "") (Or.inl (hw _ (own_w 40 rfl))) Via.refl e9 f14 (g := (mkF m 65 #[.val (.ref a1), .val (.int (Int32.ofNat (own_cnt (own_K arr) 4))), .val (.int (own_p 4))] [(.ref a1)])) rfl rfl (hb hby d14_65)
  obtain ⟨_, _, ⟨T16, Lq16, kq16, nq16⟩, -, X16, ⟨Lc16, hQ16, lq16, yq16, zq16⟩, st16⟩ := Jvm.LawKit.callS X15 hx (y := (⟨"java/util/Arrays", "sort", "([J)V"⟩ : MethodName)) hown (mvT hZ (hw _ (own_w 71 rfl))) (mvT hZ (hw _ (own_w 72 rfl))) (mvT hZ (hw _ (own_w 73 rfl))) (mvT hZ (hw _ (own_w 74 rfl))) (by decide) (backOf (W := 0) (rma1 l Z a0 hw [] b3o ck3 x13_0 h9 n0 Z9 VX13 b3) hZ (hw _ (own_w 74 rfl)) (hw _ (own_w 73 rfl)) (by decide) (by decide)) (g := (mkF m 68 #[.val (.ref a1), .val (.int (Int32.ofNat (own_cnt (own_K arr) 4))), .val (.int (own_p 4))] [(.ref b3o)])) rfl (by rw [hml]; rfl) (argsL := [(.ref b3o)]) (rest := []) (lenOf pd_8 rfl) rfl (by show 2 * 0 + _ ≤ _; exact Nat.le_of_eq rfl) (hb hby d14_68) (fun _ _ => ⟨rfl, e15, (by decide : 1 + 0 ≤ _), (by decide : 1 + 0 ≤ _)⟩)
  dsimp only [Pt.U, Pt.locs, Pt.cells, Pt.slots] at X16 lq16 yq16 zq16 st16 hQ16
  subst lq16 yq16 zq16
  obtain ⟨rfl, N16q, KC16, u16⟩ := hQ16
  have N16 := Fr.app N9 N16q
  have Z16 : n0 ≤ T16.heap.size := Nat.le_trans Z9 KC16.1
  have K16 : Keep h0 T16.heap [a1] := K9.trans KC16 (allS (Or.inr bk3) all0)
  obtain ⟨y16_0, AV16, so16, pm16⟩ := id u16
  have f17 := (f14.keep KC16 (ninS ne4 nin0))
  obtain ⟨T18, X18, e18, st18⟩ := getF X16 hx hZ hown (host := "") (Or.inl (hw _ (own_w 40 rfl))) Via.refl rfl f17 (g := (mkF m 72 #[.val (.ref a1), .val (.int (Int32.ofNat (own_cnt (own_K arr) 4))), .val (.int (own_p 4))] [(.ref a1)])) rfl rfl (hb hby d14_72)
  obtain ⟨fs, hr, hrun, hended, hW, hsame⟩ := X18.leave (v := some (.ref b3o)) (fun h => by rw [Bd.returns] at h; cases h) (BodyLoose.notSynchronized Bd)
  refine ⟨_, _, pre0 _ ?_, hrun, hended, _, _, rfl, ?_, ⟨_, rfl⟩, hW, hsame.mono (by decide) (by decide)⟩
  · show Steps p.tables e below (s₁.setTop (mkF m 0 #[.val (.ref a1), .unset, .unset] [])) _
    refine XS.aloadN X0.here hx rfl (hb hby d14_0) rfl rfl ?_
    refine st1 _ ?_
    refine XS.ifnonnullNo X1.here hx rfl (hb hby d14_4) rfl ?_
    refine XS.aloadN X1.here hx rfl (hb hby d14_7) rfl rfl ?_
    refine XS.aloadN X1.here hx rfl (hb hby d14_8) rfl rfl ?_
    refine st2 _ ?_
    refine st3 _ ?_
    refine st8 _ ?_
    refine XS.iconst X8.here hx rfl (hb hby d14_17) ?_
    refine XS.istoreN X8.here hx rfl (hb hby d14_18) rfl (l' := #[.val (.ref a1), .val (.int (0 : Int32)), .unset]) rfl ?_
    refine XS.iconst X8.here hx rfl (hb hby d14_19) ?_
    refine XS.istoreN X8.here hx rfl (hb hby d14_20) rfl (l' := #[.val (.ref a1), .val (.int (0 : Int32)), .val (.int (0 : Int32))]) rfl ?_
    refine st9 _ ?_
    refine XS.aloadN X9.here hx rfl (hb hby d14_64) rfl rfl ?_
    refine st15 _ ?_
    refine st16 _ ?_
    refine XS.aloadN X16.here hx rfl (hb hby d14_71) rfl rfl ?_
    refine st18 _ ?_
    show Steps p.tables e below (T18.setTop (mkF m 75 #[.val (.ref a1), .val (.int (Int32.ofNat (own_cnt (own_K arr) 4))), .val (.int (own_p 4))] [(.ref b3o)])) _
    exact X18.areturnOut hx rfl Bd.returns rfl (hb hby d14_75) hr
  · show QrmK4_1 Z a1 a k arr D mm h0 n0 _ T18.heap _
    have f19 := (((f6.wr W8).keep KT9).keep KC16)
    have f20 := ((f11.keep KT9 (ninS ne4 nin0)).keep KC16 (ninS ne4 nin0))
    have f21 := ((((FH.ext E3).other W8 (Or.inr (slot_ne (Or.inl (hw _ (own_w 26 rfl))) (Or.inl (hw _ (own_w 41 rfl))) (by decide) (t := .int) (t' := (.array .long)) (by decide) (by decide)))).keep KT9 (ninS ne4 nin0)).keep KC16 (ninS ne4 nin0))
    have f22 := ((((FZ.ext E3).other W8 (Or.inr (slot_ne (Or.inl (hw _ (own_w 43 rfl))) (Or.inl (hw _ (own_w 41 rfl))) (by decide) (t := .int) (t' := (.array .long)) (by decide) (by decide)))).keep KT9 (ninS ne4 nin0)).keep KC16 (ninS ne4 nin0))
    rw [e18]
    have nd := dk.2.1
    have dm := dk.1
    rw [hx13] at nd dm
    simp only [List.nodup_cons, List.mem_cons, List.not_mem_nil, or_false, not_or, not_false_eq_true, List.nodup_nil, and_true] at nd
    simp only [List.mem_cons, List.not_mem_nil, or_false] at dm
    refine ⟨b3o, _, y16_0, rfl, N16, K16, b3, bk3, f19, f20, f21, f22, f17, AV16, trivial, fun x => by rw [pm16]; exact dm x⟩
theorem ef_rmK4_2 (m : MethodId) (a1 : Addr) : entryFrame m #[(.ref a1)] 3 = mkF m 0 #[.val (.ref a1), .unset, .unset] [] := by first | (simp [entryFrame, mkF, argsToLocals, Value.category]; done) | rfl
def QrmK4_2 (Z : State) (a1 : Addr) (a : Addr) (k : ClassId) (arr : List Int64) (D : Int64 → Prop) (mm : Int64 → Int64) (h0 : Heap) (n0 : Nat) (v : Option Value) (h : Heap) (L : List Loc) : Prop := ∃ (sa : Addr) (sk : ClassId) (y0 y1 : Int64), v = some (.ref sa) ∧ Fr n0 L ∧ Keep h0 h [a1] ∧ n0 ≤ sa ∧ h0.size ≤ sa ∧ Exa Z h a1 "com/example/pricewright/pricewright/core/LongSumTable" ∧ Fld Z h a1 "com/example/pricewright/pricewright/core/LongSumTable" "slots" "[J" (.ref a) ∧ Fld Z h a1 "com/example/pricewright/pricewright/core/LongSumTable" "shift" "I" (.int (62 : Int32)) ∧ Fld Z h a1 "com/example/pricewright/pricewright/core/LongSumTable" "size" "I" (.int (2 : Int32)) ∧ Fld Z h a1 "com/example/pricewright/pricewright/core/LongSumTable" "sorted" "[J" (.ref sa) ∧ Arv Z h sa sk .long (2 : Int32) [.long y0, .long y1] (.long (0 : Int64)) ∧ (y0 < y1) ∧ ∀ x, D x ↔ (x = y0 ∨ x = y1)
set_option maxRecDepth 65536 in
set_option maxHeartbeats 40000000 in
theorem rmK4_2 (l : Launch) (Z : State) (a0 : Array Value) (hw : ∀ d ∈ tables_1, d.before a0 Z = true) (ws : List Jvm.Cond) (a1 : Addr) (a : Addr) (k : ClassId) (arr : List Int64) (D : Int64 → Prop) (mm : Int64 → Int64) (h0 : Heap) (n0 : Nat) (Z0 : n0 ≤ h0.size) (E : Exa Z h0 a1 "com/example/pricewright/pricewright/core/LongSumTable") (FS : Fld Z h0 a1 "com/example/pricewright/pricewright/core/LongSumTable" "slots" "[J" (.ref a)) (FH : Fld Z h0 a1 "com/example/pricewright/pricewright/core/LongSumTable" "shift" "I" (.int (62 : Int32))) (FZ : Fld Z h0 a1 "com/example/pricewright/pricewright/core/LongSumTable" "size" "I" (.int (2 : Int32))) (FQ : Fld Z h0 a1 "com/example/pricewright/pricewright/core/LongSumTable" "sorted" "[J" .null) (AV : Arv Z h0 a k .long (8 : Int32) (arr.map Value.long) (.long (0 : Int64))) (hne : a1 ≠ a) (ga1 : n0 ≤ a1) (Rp : own_Rep (own_K arr) (own_W arr) 4 (own_hs 4) D mm 2) :
    MetFree l (⟨"com/example/pricewright/pricewright/core/LongSumTable", "sortedKeys", "()[J"⟩ : MethodName) (head1 (Jvm.Cond.code (⟨"com/example/pricewright/pricewright/core/LongSumTable", "sortedKeys", "()[J"⟩ : MethodName) prog_19_method_5_code 3 (some (.array .long)) :: ws) ({ frames := 4, cells := 1, slots := 2, locals := 84 } : Room)) (fun a U => a = #[(.ref a1)] ∧ Z.Warmed39 U.vm ∧ U.heap = h0) (fun _ _ _ _ _ => True) (fun _ U o U' => ∃ v L, o = .returned v ∧ QrmK4_2 Z a1 a k arr D mm h0 n0 v U'.heap L ∧ FrameEnd U o U' L ({ frames := 4, cells := 1, slots := 2, locals := 84 } : Room).cells ({ frames := 4, cells := 1, slots := 2, locals := 84 } : Room).slots) := by
  refine MetFree.of_bodySF (plainFor_of_name pn_14) hisR ?_
  intro p e s m args below meth c s₁ Bd hml0 hP hK
  obtain ⟨rfl, hZ, hh⟩ := hP
  have hx := Bd.exec
  have hby := Bd.bytes
  have hml : c.maxLocals = 3 := hml0
  have hown : s.vm.findClass "com/example/pricewright/pricewright/core/LongSumTable" = some m.cls := findClass_of_methodNamed Bd.named
  have hnm := (name_of_methodNamed Bd.named Bd.method).1
  have X0 : Stand p l e ({ frames := 4, cells := 1, slots := 2, locals := 84 } : Room) s m #[(.ref a1)] below meth c s₁ [] 0 0 := Stand.of_body Bd
  have e0 : s₁.heap = h0 := by rw [← hh, Bd.state]; rfl
  have N0 := Fr.nil n0
  have pre0 : ∀ t, Steps p.tables e below (s₁.setTop (mkF m 0 #[.val (.ref a1), .unset, .unset] [])) t → Steps p.tables e below (s₁.setTop (entryFrame m #[(.ref a1)] 3)) t := fun t k => castTop (ef_rmK4_2 m a1) k
  obtain ⟨T1, X1, e1, st1⟩ := getF X0 hx hZ hown (host := "") (Or.inl (hw _ (own_w 40 rfl))) Via.refl e0 FQ (g := (mkF m 1 #[.val (.ref a1), .unset, .unset] [(.ref a1)])) rfl rfl (hb hby d14_1)
  obtain ⟨T2, X2, e2, st2⟩ := getF X1 hx hZ hown (host := "") (Or.inl (hw _ (own_w 42 rfl))) Via.refl e1 FZ (g := (mkF m 9 #[.val (.ref a1), .unset, .unset] [(.ref a1), (.ref a1)])) rfl rfl (hb hby d14_9)
  obtain ⟨T3, h3, ck3, X3, e3, E3, A3, st3⟩ := newP X2 hx hZ (hw _ (own_w 12 rfl)) e2 (g := (mkF m 12 #[.val (.ref a1), .unset, .unset] [(.int (2 : Int32)), (.ref a1)])) rfl (hb hby d14_12) rfl (by decide) (cap := 2) (by decide) (by decide) (by decide) (by decide)
  obtain ⟨b3o, g3⟩ : ∃ z, z = h0.size := ⟨_, rfl⟩
  have b3 : n0 ≤ b3o := Nat.le_trans Z0 (Nat.le_of_eq g3.symm)
  have bk3 : h0.size ≤ b3o := Nat.le_trans (Keep.refl h0 [a1]).1 (Nat.le_of_eq g3.symm)
  have ne4 : a1 ≠ b3o := Nat.ne_of_lt (Nat.lt_of_lt_of_le E.lt (Nat.le_of_eq g3.symm))
  have ne5 : a ≠ b3o := Nat.ne_of_lt (Nat.lt_of_lt_of_le AV.lt (Nat.le_of_eq g3.symm))
  rw [← g3] at A3 st3
  have Z3 : n0 ≤ h3.size := Nat.le_trans Z0 E3.1
  have K3 : Keep h0 h3 [a1] := (Keep.refl h0 [a1]).ext E3
  have V3 : Arv Z h3 b3o ck3 .long (2 : Int32) [(.long (0 : Int64)), (.long (0 : Int64))] (.long (0 : Int64)) := (Arv.new A3 (by decide)).pad (pad_rep [] (.long (0 : Int64)) 2)
  have f6 := (E.ext E3)
  have f7 := (FQ.ext E3)
  obtain ⟨T8, h8, X8, e8, W8, st8⟩ := putF X3 hx hZ hown (host := "") (Or.inl (hw _ (own_w 40 rfl))) Via.refl e3 f7 f6 (Or.inl (hw _ (own_w 41 rfl))) (hw _ (own_w 1 rfl)) (ty := (.array .long)) (by decide) rfl rfl (g := (mkF m 14 #[.val (.ref a1), .unset, .unset] [(.ref b3o), (.ref a1)])) rfl rfl (hb hby d14_14)
  have N8 := Fr.snoc X8 N0 ga1
  have Z8 : n0 ≤ h8.size := by rw [W8.size]; exact Z3
  have K8 : Keep h0 h8 [a1] := K3.wr W8 (Or.inl (own_w 0 rfl))
  have Fw8 := f7.same W8
  have f10 := (V3.other W8 (Ne.symm ne4))
  have VP9 : Arv Z h8 b3o ck3 .long (Int32.ofNat 2) ((own_pad (own_K arr) 0 2).map Value.long) (.long (0 : Int64)) := f10
  have f11 := ((FS.ext E3).other W8 (Or.inr (slot_ne (Or.inl (hw _ (own_w 14 rfl))) (Or.inl (hw _ (own_w 41 rfl))) (by decide) (t := (.array .long)) (t' := (.array .long)) (by decide) (by decide))))
  have f12 := ((AV.ext E3).other W8 (Ne.symm hne))
  obtain ⟨T9, h9, L9, X9, e9, N9, Z9, KT9, AV9, st9⟩ := own_sk (n := 4) (z := 2) hx hZ hw hby hml hown (Or.inl rfl) (by decide) Rp ne5 ne4 b3 4 0 rfl _ _ _ X8 e8 N8 Z8 f11 Fw8 f12 VP9
  have K9 : Keep h0 h9 [a1] := K8.trans KT9 (allS (Or.inr bk3) all0)
  have dk := own_dom_ks Rp
  have pf := own_pad_full Rp.2.2.2
  obtain ⟨x13_0, x13_1, hx13⟩ := own_l2 dk.2.2
  have VX13 := AV9
  rw [pf, hx13] at VX13
  have f14 := (Fw8.keep KT9 (ninS ne4 nin0))
  obtain ⟨T15, X15, e15, st15⟩ := getF X9 hx hZ hown (host := "") (Or.inl (hw _ (own_w 40 rfl))) Via.refl e9 f14 (g := (mkF m 65 #[.val (.ref a1), .val (.int (Int32.ofNat (own_cnt (own_K arr) 4))), .val (.int (own_p 4))] [(.ref a1)])) rfl rfl (hb hby d14_65)
  obtain ⟨_, _, ⟨T16, Lq16, kq16, nq16⟩, -, X16, ⟨Lc16, hQ16, lq16, yq16, zq16⟩, st16⟩ := Jvm.LawKit.callS X15 hx (y := (⟨"java/util/Arrays", "sort", "([J)V"⟩ : MethodName)) hown (mvT hZ (hw _ (own_w 71 rfl))) (mvT hZ (hw _ (own_w 72 rfl))) (mvT hZ (hw _ (own_w 73 rfl))) (mvT hZ (hw _ (own_w 74 rfl))) (by decide) (backOf (W := 0) (rma2 l Z a0 hw [] b3o ck3 x13_0 x13_1 h9 n0 Z9 VX13 b3) hZ (hw _ (own_w 74 rfl)) (hw _ (own_w 73 rfl)) (by decide) (by decide)) (g := (mkF m 68 #[.val (.ref a1), .val (.int (Int32.ofNat (own_cnt (own_K arr) 4))), .val (.int (own_p 4))] [(.ref b3o)])) rfl (by rw [hml]; rfl) (argsL := [(.ref b3o)]) (rest := []) (lenOf pd_8 rfl) rfl (by show 2 * 0 + _ ≤ _; exact Nat.le_of_eq rfl) (hb hby d14_68) (fun _ _ => ⟨rfl, e15, (by decide : 1 + 0 ≤ _), (by decide : 2 + 0 ≤ _)⟩)
  dsimp only [Pt.U, Pt.locs, Pt.cells, Pt.slots] at X16 lq16 yq16 zq16 st16 hQ16
  subst lq16 yq16 zq16
  obtain ⟨rfl, N16q, KC16, u16⟩ := hQ16
  have N16 := Fr.app N9 N16q
  have Z16 : n0 ≤ T16.heap.size := Nat.le_trans Z9 KC16.1
  have K16 : Keep h0 T16.heap [a1] := K9.trans KC16 (allS (Or.inr bk3) all0)
  obtain ⟨y16_0, y16_1, AV16, so16, pm16⟩ := id u16
  have f17 := (f14.keep KC16 (ninS ne4 nin0))
  obtain ⟨T18, X18, e18, st18⟩ := getF X16 hx hZ hown (host := "") (Or.inl (hw _ (own_w 40 rfl))) Via.refl rfl f17 (g := (mkF m 72 #[.val (.ref a1), .val (.int (Int32.ofNat (own_cnt (own_K arr) 4))), .val (.int (own_p 4))] [(.ref a1)])) rfl rfl (hb hby d14_72)
  obtain ⟨fs, hr, hrun, hended, hW, hsame⟩ := X18.leave (v := some (.ref b3o)) (fun h => by rw [Bd.returns] at h; cases h) (BodyLoose.notSynchronized Bd)
  refine ⟨_, _, pre0 _ ?_, hrun, hended, _, _, rfl, ?_, ⟨_, rfl⟩, hW, hsame.mono (by decide) (by decide)⟩
  · show Steps p.tables e below (s₁.setTop (mkF m 0 #[.val (.ref a1), .unset, .unset] [])) _
    refine XS.aloadN X0.here hx rfl (hb hby d14_0) rfl rfl ?_
    refine st1 _ ?_
    refine XS.ifnonnullNo X1.here hx rfl (hb hby d14_4) rfl ?_
    refine XS.aloadN X1.here hx rfl (hb hby d14_7) rfl rfl ?_
    refine XS.aloadN X1.here hx rfl (hb hby d14_8) rfl rfl ?_
    refine st2 _ ?_
    refine st3 _ ?_
    refine st8 _ ?_
    refine XS.iconst X8.here hx rfl (hb hby d14_17) ?_
    refine XS.istoreN X8.here hx rfl (hb hby d14_18) rfl (l' := #[.val (.ref a1), .val (.int (0 : Int32)), .unset]) rfl ?_
    refine XS.iconst X8.here hx rfl (hb hby d14_19) ?_
    refine XS.istoreN X8.here hx rfl (hb hby d14_20) rfl (l' := #[.val (.ref a1), .val (.int (0 : Int32)), .val (.int (0 : Int32))]) rfl ?_
    refine st9 _ ?_
    refine XS.aloadN X9.here hx rfl (hb hby d14_64) rfl rfl ?_
    refine st15 _ ?_
    refine st16 _ ?_
    refine XS.aloadN X16.here hx rfl (hb hby d14_71) rfl rfl ?_
    refine st18 _ ?_
    show Steps p.tables e below (T18.setTop (mkF m 75 #[.val (.ref a1), .val (.int (Int32.ofNat (own_cnt (own_K arr) 4))), .val (.int (own_p 4))] [(.ref b3o)])) _
    exact X18.areturnOut hx rfl Bd.returns rfl (hb hby d14_75) hr
  · show QrmK4_2 Z a1 a k arr D mm h0 n0 _ T18.heap _
    have f19 := (((f6.wr W8).keep KT9).keep KC16)
    have f20 := ((f11.keep KT9 (ninS ne4 nin0)).keep KC16 (ninS ne4 nin0))
    have f21 := ((((FH.ext E3).other W8 (Or.inr (slot_ne (Or.inl (hw _ (own_w 26 rfl))) (Or.inl (hw _ (own_w 41 rfl))) (by decide) (t := .int) (t' := (.array .long)) (by decide) (by decide)))).keep KT9 (ninS ne4 nin0)).keep KC16 (ninS ne4 nin0))
    have f22 := ((((FZ.ext E3).other W8 (Or.inr (slot_ne (Or.inl (hw _ (own_w 43 rfl))) (Or.inl (hw _ (own_w 41 rfl))) (by decide) (t := .int) (t' := (.array .long)) (by decide) (by decide)))).keep KT9 (ninS ne4 nin0)).keep KC16 (ninS ne4 nin0))
    rw [e18]
    have nd := dk.2.1
    have dm := dk.1
    rw [hx13] at nd dm
    simp only [List.nodup_cons, List.mem_cons, List.not_mem_nil, or_false, not_or, not_false_eq_true, List.nodup_nil, and_true] at nd
    simp only [List.mem_cons, List.not_mem_nil, or_false] at dm
    refine ⟨b3o, _, y16_0, y16_1, rfl, N16, K16, b3, bk3, f19, f20, f21, f22, f17, AV16, ?_, ?_⟩
    · refine own_str so16 ?_
      rcases pm16 with ⟨q0, q1⟩ | ⟨q0, q1⟩ <;> rw [q0, q1]
      · exact nd
      · exact fun w => nd w.symm
    · intro x
      rw [dm x]
      rcases pm16 with ⟨q0, q1⟩ | ⟨q0, q1⟩ <;> rw [q0, q1]
      exact or_comm
theorem ef_rmK8_3 (m : MethodId) (a1 : Addr) : entryFrame m #[(.ref a1)] 3 = mkF m 0 #[.val (.ref a1), .unset, .unset] [] := by first | (simp [entryFrame, mkF, argsToLocals, Value.category]; done) | rfl
def QrmK8_3 (Z : State) (a1 : Addr) (a : Addr) (k : ClassId) (arr : List Int64) (D : Int64 → Prop) (mm : Int64 → Int64) (h0 : Heap) (n0 : Nat) (v : Option Value) (h : Heap) (L : List Loc) : Prop := ∃ (sa : Addr) (sk : ClassId) (y0 y1 y2 : Int64), v = some (.ref sa) ∧ Fr n0 L ∧ Keep h0 h [a1] ∧ n0 ≤ sa ∧ h0.size ≤ sa ∧ Exa Z h a1 "com/example/pricewright/pricewright/core/LongSumTable" ∧ Fld Z h a1 "com/example/pricewright/pricewright/core/LongSumTable" "slots" "[J" (.ref a) ∧ Fld Z h a1 "com/example/pricewright/pricewright/core/LongSumTable" "shift" "I" (.int (61 : Int32)) ∧ Fld Z h a1 "com/example/pricewright/pricewright/core/LongSumTable" "size" "I" (.int (3 : Int32)) ∧ Fld Z h a1 "com/example/pricewright/pricewright/core/LongSumTable" "sorted" "[J" (.ref sa) ∧ Arv Z h sa sk .long (3 : Int32) [.long y0, .long y1, .long y2] (.long (0 : Int64)) ∧ (y0 < y1 ∧ y1 < y2) ∧ ∀ x, D x ↔ (x = y0 ∨ x = y1 ∨ x = y2)
set_option maxRecDepth 65536 in
set_option maxHeartbeats 40000000 in
theorem rmK8_3 (l : Launch) (Z : State) (a0 : Array Value) (hw : ∀ d ∈ tables_1, d.before a0 Z = true) (ws : List Jvm.Cond) (a1 : Addr) (a : Addr) (k : ClassId) (arr : List Int64) (D : Int64 → Prop) (mm : Int64 → Int64) (h0 : Heap) (n0 : Nat) (Z0 : n0 ≤ h0.size) (E : Exa Z h0 a1 "com/example/pricewright/pricewright/core/LongSumTable") (FS : Fld Z h0 a1 "com/example/pricewright/pricewright/core/LongSumTable" "slots" "[J" (.ref a)) (FH : Fld Z h0 a1 "com/example/pricewright/pricewright/core/LongSumTable" "shift" "I" (.int (61 : Int32))) (FZ : Fld Z h0 a1 "com/example/pricewright/pricewright/core/LongSumTable" "size" "I" (.int (3 : Int32))) (FQ : Fld Z h0 a1 "com/example/pricewright/pricewright/core/LongSumTable" "sorted" "[J" .null) (AV : Arv Z h0 a k .long (16 : Int32) (arr.map Value.long) (.long (0 : Int64))) (hne : a1 ≠ a) (ga1 : n0 ≤ a1) (Rp : own_Rep (own_K arr) (own_W arr) 8 (own_hs 8) D mm 3) :
    MetFree l (⟨"com/example/pricewright/pricewright/core/LongSumTable", "sortedKeys", "()[J"⟩ : MethodName) (head1 (Jvm.Cond.code (⟨"com/example/pricewright/pricewright/core/LongSumTable", "sortedKeys", "()[J"⟩ : MethodName) prog_19_method_5_code 3 (some (.array .long)) :: ws) ({ frames := 4, cells := 1, slots := 3, locals := 84 } : Room)) (fun a U => a = #[(.ref a1)] ∧ Z.Warmed39 U.vm ∧ U.heap = h0) (fun _ _ _ _ _ => True) (fun _ U o U' => ∃ v L, o = .returned v ∧ QrmK8_3 Z a1 a k arr D mm h0 n0 v U'.heap L ∧ FrameEnd U o U' L ({ frames := 4, cells := 1, slots := 3, locals := 84 } : Room).cells ({ frames := 4, cells := 1, slots := 3, locals := 84 } : Room).slots) := by
  refine MetFree.of_bodySF (plainFor_of_name pn_14) hisR ?_
  intro p e s m args below meth c s₁ Bd hml0 hP hK
  obtain ⟨rfl, hZ, hh⟩ := hP
  have hx := Bd.exec
  have hby := Bd.bytes
  have hml : c.maxLocals = 3 := hml0
  have hown : s.vm.findClass "com/example/pricewright/pricewright/core/LongSumTable" = some m.cls := findClass_of_methodNamed Bd.named
  have hnm := (name_of_methodNamed Bd.named Bd.method).1
  have X0 : Stand p l e ({ frames := 4, cells := 1, slots := 3, locals := 84 } : Room) s m #[(.ref a1)] below meth c s₁ [] 0 0 := Stand.of_body Bd
  have e0 : s₁.heap = h0 := by rw [← hh, Bd.state]; rfl
  have N0 := Fr.nil n0
  have pre0 : ∀ t, Steps p.tables e below (s₁.setTop (mkF m 0 #[.val (.ref a1), .unset, .unset] [])) t → Steps p.tables e below (s₁.setTop (entryFrame m #[(.ref a1)] 3)) t := fun t k => castTop (ef_rmK8_3 m a1) k
  obtain ⟨T1, X1, e1, st1⟩ := getF X0 hx hZ hown (host := "") (Or.inl (hw _ (own_w 40 rfl))) Via.refl e0 FQ (g := (mkF m 1 #[.val (.ref a1), .unset, .unset] [(.ref a1)])) rfl rfl (hb hby d14_1)
  obtain ⟨T2, X2, e2, st2⟩ := getF X1 hx hZ hown (host := "") (Or.inl (hw _ (own_w 42 rfl))) Via.refl e1 FZ (g := (mkF m 9 #[.val (.ref a1), .unset, .unset] [(.ref a1), (.ref a1)])) rfl rfl (hb hby d14_9)
  obtain ⟨T3, h3, ck3, X3, e3, E3, A3, st3⟩ := newP X2 hx hZ (hw _ (own_w 12 rfl)) e2 (g := (mkF m 12 #[.val (.ref a1), .unset, .unset] [(.int (3 : Int32)), (.ref a1)])) rfl (hb hby d14_12) rfl (by decide) (cap := 3) (by decide) (by decide) (by decide) (by decide)
  obtain ⟨b3o, g3⟩ : ∃ z, z = h0.size := ⟨_, rfl⟩
  have b3 : n0 ≤ b3o := Nat.le_trans Z0 (Nat.le_of_eq g3.symm)
  have bk3 : h0.size ≤ b3o := Nat.le_trans (Keep.refl h0 [a1]).1 (Nat.le_of_eq g3.symm)
  have ne4 : a1 ≠ b3o := Nat.ne_of_lt (Nat.lt_of_lt_of_le E.lt (Nat.le_of_eq g3.symm))
  have ne5 : a ≠ b3o := Nat.ne_of_lt (Nat.lt_of_lt_of_le AV.lt (Nat.le_of_eq g3.symm))
  rw [← g3] at A3 st3
  have Z3 : n0 ≤ h3.size := Nat.le_trans Z0 E3.1
  have K3 : Keep h0 h3 [a1] := (Keep.refl h0 [a1]).ext E3
  have V3 : Arv Z h3 b3o ck3 .long (3 : Int32) [(.long (0 : Int64)), (.long (0 : Int64)), (.long (0 : Int64))] (.long (0 : Int64)) := (Arv.new A3 (by decide)).pad (pad_rep [] (.long (0 : Int64)) 3)
  have f6 := (E.ext E3)
  have f7 := (FQ.ext E3)
  obtain ⟨T8, h8, X8, e8, W8, st8⟩ := putF X3 hx hZ hown (host := "") (Or.inl (hw _ (own_w 40 rfl))) Via.refl e3 f7 f6 (Or.inl (hw _ (own_w 41 rfl))) (hw _ (own_w 1 rfl)) (ty := (.array .long)) (by decide) rfl rfl (g := (mkF m 14 #[.val (.ref a1), .unset, .unset] [(.ref b3o), (.ref a1)])) rfl rfl (hb hby d14_14)
  have N8 := Fr.snoc X8 N0 ga1
  have Z8 : n0 ≤ h8.size := by rw [W8.size]; exact Z3
  have K8 : Keep h0 h8 [a1] := K3.wr W8 (Or.inl (own_w 0 rfl))
  have Fw8 := f7.same W8
  have f10 := (V3.other W8 (Ne.symm ne4))
  have VP9 : Arv Z h8 b3o ck3 .long (Int32.ofNat 3) ((own_pad (own_K arr) 0 3).map Value.long) (.long (0 : Int64)) := f10
  have f11 := ((FS.ext E3).other W8 (Or.inr (slot_ne (Or.inl (hw _ (own_w 14 rfl))) (Or.inl (hw _ (own_w 41 rfl))) (by decide) (t := (.array .long)) (t' := (.array .long)) (by decide) (by decide))))
  have f12 := ((AV.ext E3).other W8 (Ne.symm hne))
  obtain ⟨T9, h9, L9, X9, e9, N9, Z9, KT9, AV9, st9⟩ := own_sk (n := 8) (z := 3) hx hZ hw hby hml hown (Or.inr rfl) (by decide) Rp ne5 ne4 b3 8 0 rfl _ _ _ X8 e8 N8 Z8 f11 Fw8 f12 VP9
  have K9 : Keep h0 h9 [a1] := K8.trans KT9 (allS (Or.inr bk3) all0)
  have dk := own_dom_ks Rp
  have pf := own_pad_full Rp.2.2.2
  obtain ⟨x13_0, x13_1, x13_2, hx13⟩ := own_l3 dk.2.2
  have VX13 := AV9
  rw [pf, hx13] at VX13
  have f14 := (Fw8.keep KT9 (ninS ne4 nin0))
  obtain ⟨T15, X15, e15, st15⟩ := getF X9 hx hZ hown (host := "") (Or.inl (hw _ (own_w 40 rfl))) Via.refl e9 f14 (g := (mkF m 65 #[.val (.ref a1), .val (.int (Int32.ofNat (own_cnt (own_K arr) 8))), .val (.int (own_p 8))] [(.ref a1)])) rfl rfl (hb hby d14_65)
  obtain ⟨_, _, ⟨T16, Lq16, kq16, nq16⟩, -, X16, ⟨Lc16, hQ16, lq16, yq16, zq16⟩, st16⟩ := Jvm.LawKit.callS X15 hx (y := (⟨"java/util/Arrays", "sort", "([J)V"⟩ : MethodName)) hown (mvT hZ (hw _ (own_w 71 rfl))) (mvT hZ (hw _ (own_w 72 rfl))) (mvT hZ (hw _ (own_w 73 rfl))) (mvT hZ (hw _ (own_w 74 rfl))) (by decide) (backOf (W := 0) (rma3 l Z a0 hw [] b3o ck3 x13_0 x13_1 x13_2 h9 n0 Z9 VX13 b3) hZ (hw _ (own_w 74 rfl)) (hw _ (own_w 73 rfl)) (by decide) (by decide)) (g := (mkF m 68 #[.val (.ref a1), .val (.int (Int32.ofNat (own_cnt (own_K arr) 8))), .val (.int (own_p 8))] [(.ref b3o)])) rfl (by rw [hml]; rfl) (argsL := [(.ref b3o)]) (rest := []) (lenOf pd_8 rfl) rfl (by show 2 * 0 + _ ≤ _; exact Nat.le_of_eq rfl) (hb hby d14_68) (fun _ _ => ⟨rfl, e15, (by decide : 1 + 0 ≤ _), (by decide : 3 + 0 ≤ _)⟩)
  dsimp only [Pt.U, Pt.locs, Pt.cells, Pt.slots] at X16 lq16 yq16 zq16 st16 hQ16
  subst lq16 yq16 zq16
  obtain ⟨rfl, N16q, KC16, u16⟩ := hQ16
  have N16 := Fr.app N9 N16q
  have Z16 : n0 ≤ T16.heap.size := Nat.le_trans Z9 KC16.1
  have K16 : Keep h0 T16.heap [a1] := K9.trans KC16 (allS (Or.inr bk3) all0)
  obtain ⟨y16_0, y16_1, y16_2, AV16, so16, pm16⟩ := id u16
  have f17 := (f14.keep KC16 (ninS ne4 nin0))
  obtain ⟨T18, X18, e18, st18⟩ := getF X16 hx hZ hown (host := "") (Or.inl (hw _ (own_w 40 rfl))) Via.refl rfl f17 (g := (mkF m 72 #[.val (.ref a1), .val (.int (Int32.ofNat (own_cnt (own_K arr) 8))), .val (.int (own_p 8))] [(.ref a1)])) rfl rfl (hb hby d14_72)
  obtain ⟨fs, hr, hrun, hended, hW, hsame⟩ := X18.leave (v := some (.ref b3o)) (fun h => by rw [Bd.returns] at h; cases h) (BodyLoose.notSynchronized Bd)
  refine ⟨_, _, pre0 _ ?_, hrun, hended, _, _, rfl, ?_, ⟨_, rfl⟩, hW, hsame.mono (by decide) (by decide)⟩
  · show Steps p.tables e below (s₁.setTop (mkF m 0 #[.val (.ref a1), .unset, .unset] [])) _
    refine XS.aloadN X0.here hx rfl (hb hby d14_0) rfl rfl ?_
    refine st1 _ ?_
    refine XS.ifnonnullNo X1.here hx rfl (hb hby d14_4) rfl ?_
    refine XS.aloadN X1.here hx rfl (hb hby d14_7) rfl rfl ?_
    refine XS.aloadN X1.here hx rfl (hb hby d14_8) rfl rfl ?_
    refine st2 _ ?_
    refine st3 _ ?_
    refine st8 _ ?_
    refine XS.iconst X8.here hx rfl (hb hby d14_17) ?_
    refine XS.istoreN X8.here hx rfl (hb hby d14_18) rfl (l' := #[.val (.ref a1), .val (.int (0 : Int32)), .unset]) rfl ?_
    refine XS.iconst X8.here hx rfl (hb hby d14_19) ?_
    refine XS.istoreN X8.here hx rfl (hb hby d14_20) rfl (l' := #[.val (.ref a1), .val (.int (0 : Int32)), .val (.int (0 : Int32))]) rfl ?_
    refine st9 _ ?_
    refine XS.aloadN X9.here hx rfl (hb hby d14_64) rfl rfl ?_
    refine st15 _ ?_
    refine st16 _ ?_
    refine XS.aloadN X16.here hx rfl (hb hby d14_71) rfl rfl ?_
    refine st18 _ ?_
    show Steps p.tables e below (T18.setTop (mkF m 75 #[.val (.ref a1), .val (.int (Int32.ofNat (own_cnt (own_K arr) 8))), .val (.int (own_p 8))] [(.ref b3o)])) _
    exact X18.areturnOut hx rfl Bd.returns rfl (hb hby d14_75) hr
  · show QrmK8_3 Z a1 a k arr D mm h0 n0 _ T18.heap _
    have f19 := (((f6.wr W8).keep KT9).keep KC16)
    have f20 := ((f11.keep KT9 (ninS ne4 nin0)).keep KC16 (ninS ne4 nin0))
    have f21 := ((((FH.ext E3).other W8 (Or.inr (slot_ne (Or.inl (hw _ (own_w 26 rfl))) (Or.inl (hw _ (own_w 41 rfl))) (by decide) (t := .int) (t' := (.array .long)) (by decide) (by decide)))).keep KT9 (ninS ne4 nin0)).keep KC16 (ninS ne4 nin0))
    have f22 := ((((FZ.ext E3).other W8 (Or.inr (slot_ne (Or.inl (hw _ (own_w 43 rfl))) (Or.inl (hw _ (own_w 41 rfl))) (by decide) (t := .int) (t' := (.array .long)) (by decide) (by decide)))).keep KT9 (ninS ne4 nin0)).keep KC16 (ninS ne4 nin0))
    rw [e18]
    have nd := dk.2.1
    have dm := dk.1
    rw [hx13] at nd dm
    simp only [List.nodup_cons, List.mem_cons, List.not_mem_nil, or_false, not_or, not_false_eq_true, List.nodup_nil, and_true] at nd
    simp only [List.mem_cons, List.not_mem_nil, or_false] at dm
    refine ⟨b3o, _, y16_0, y16_1, y16_2, rfl, N16, K16, b3, bk3, f19, f20, f21, f22, f17, AV16, ?_, ?_⟩
    · have hne : ¬ y16_0 = y16_1 ∧ ¬ y16_1 = y16_2 := by
        obtain ⟨⟨n1, n2⟩, n3⟩ := nd
        rcases pm16 with ⟨q0, q1, q2⟩ | ⟨q0, q1, q2⟩ | ⟨q0, q1, q2⟩ | ⟨q0, q1, q2⟩ | ⟨q0, q1, q2⟩ | ⟨q0, q1, q2⟩ <;> rw [q0, q1, q2] <;> refine ⟨fun w => ?_, fun w => ?_⟩ <;> first | exact n1 w | exact n2 w | exact n3 w | exact n1 w.symm | exact n2 w.symm | exact n3 w.symm
      exact ⟨own_str so16.1 hne.1, own_str so16.2 hne.2⟩
    · intro x
      rw [dm x]
      rcases pm16 with ⟨q0, q1, q2⟩ | ⟨q0, q1, q2⟩ | ⟨q0, q1, q2⟩ | ⟨q0, q1, q2⟩ | ⟨q0, q1, q2⟩ | ⟨q0, q1, q2⟩ <;> rw [q0, q1, q2] <;> constructor <;> (intro w; rcases w with w | w | w <;> simp [w])
theorem ef_rmKc (m : MethodId) (a1 : Addr) : entryFrame m #[(.ref a1)] 3 = mkF m 0 #[.val (.ref a1), .unset, .unset] [] := by first | (simp [entryFrame, mkF, argsToLocals, Value.category]; done) | rfl
def QrmKc (Z : State) (a1 : Addr) (sa : Addr) (h0 : Heap) (n0 : Nat) (v : Option Value) (h : Heap) (L : List Loc) : Prop := v = some (.ref sa) ∧ Fr n0 L ∧ h = h0
set_option maxRecDepth 65536 in
set_option maxHeartbeats 40000000 in
theorem rmKc (l : Launch) (Z : State) (a0 : Array Value) (hw : ∀ d ∈ tables_1, d.before a0 Z = true) (ws : List Jvm.Cond) (a1 : Addr) (sa : Addr) (h0 : Heap) (n0 : Nat) (Z0 : n0 ≤ h0.size) (FQ : Fld Z h0 a1 "com/example/pricewright/pricewright/core/LongSumTable" "sorted" "[J" (.ref sa)) :
    MetFree l (⟨"com/example/pricewright/pricewright/core/LongSumTable", "sortedKeys", "()[J"⟩ : MethodName) (head1 (Jvm.Cond.code (⟨"com/example/pricewright/pricewright/core/LongSumTable", "sortedKeys", "()[J"⟩ : MethodName) prog_19_method_5_code 3 (some (.array .long)) :: ws) ({ frames := 0, cells := 0, slots := 0, locals := 0 } : Room)) (fun a U => a = #[(.ref a1)] ∧ Z.Warmed39 U.vm ∧ U.heap = h0) (fun _ _ _ _ _ => True) (fun _ U o U' => ∃ v L, o = .returned v ∧ QrmKc Z a1 sa h0 n0 v U'.heap L ∧ FrameEnd U o U' L ({ frames := 0, cells := 0, slots := 0, locals := 0 } : Room).cells ({ frames := 0, cells := 0, slots := 0, locals := 0 } : Room).slots) := by
  refine MetFree.of_bodySF (plainFor_of_name pn_14) hisR ?_
  intro p e s m args below meth c s₁ Bd hml0 hP hK
  obtain ⟨rfl, hZ, hh⟩ := hP
  have hx := Bd.exec
  have hby := Bd.bytes
  have hml : c.maxLocals = 3 := hml0
  have hown : s.vm.findClass "com/example/pricewright/pricewright/core/LongSumTable" = some m.cls := findClass_of_methodNamed Bd.named
  have hnm := (name_of_methodNamed Bd.named Bd.method).1
  have X0 : Stand p l e ({ frames := 0, cells := 0, slots := 0, locals := 0 } : Room) s m #[(.ref a1)] below meth c s₁ [] 0 0 := Stand.of_body Bd
  have e0 : s₁.heap = h0 := by rw [← hh, Bd.state]; rfl
  have N0 := Fr.nil n0
  have pre0 : ∀ t, Steps p.tables e below (s₁.setTop (mkF m 0 #[.val (.ref a1), .unset, .unset] [])) t → Steps p.tables e below (s₁.setTop (entryFrame m #[(.ref a1)] 3)) t := fun t k => castTop (ef_rmKc m a1) k
  obtain ⟨T1, X1, e1, st1⟩ := getF X0 hx hZ hown (host := "") (Or.inl (hw _ (own_w 40 rfl))) Via.refl e0 FQ (g := (mkF m 1 #[.val (.ref a1), .unset, .unset] [(.ref a1)])) rfl rfl (hb hby d14_1)
  obtain ⟨T2, X2, e2, st2⟩ := getF X1 hx hZ hown (host := "") (Or.inl (hw _ (own_w 40 rfl))) Via.refl e1 FQ (g := (mkF m 72 #[.val (.ref a1), .unset, .unset] [(.ref a1)])) rfl rfl (hb hby d14_72)
  obtain ⟨fs, hr, hrun, hended, hW, hsame⟩ := X2.leave (v := some (.ref sa)) (fun h => by rw [Bd.returns] at h; cases h) (BodyLoose.notSynchronized Bd)
  refine ⟨_, _, pre0 _ ?_, hrun, hended, _, _, rfl, ?_, ⟨_, rfl⟩, hW, hsame.mono (by decide) (by decide)⟩
  · show Steps p.tables e below (s₁.setTop (mkF m 0 #[.val (.ref a1), .unset, .unset] [])) _
    refine XS.aloadN X0.here hx rfl (hb hby d14_0) rfl rfl ?_
    refine st1 _ ?_
    refine XS.ifnonnullYes X1.here hx rfl (pc0 := 4) (pc' := 71) rfl (hb hby d14_4) rfl (by decide) (by decide) ?_
    refine XS.aloadN X1.here hx rfl (hb hby d14_71) rfl rfl ?_
    refine st2 _ ?_
    show Steps p.tables e below (T2.setTop (mkF m 75 #[.val (.ref a1), .unset, .unset] [(.ref sa)])) _
    exact X2.areturnOut hx rfl Bd.returns rfl (hb hby d14_75) hr
  · show QrmKc Z a1 sa h0 n0 _ T2.heap _
    exact ⟨rfl, N0, e2⟩
def own_B (x : Int64) : Prop := -2147483648 ≤ x.toInt ∧ x.toInt ≤ 2147483648
theorem own_mul {x y : Int64} (hx : own_B x) (hy : own_B y) : (x * y).toInt = x.toInt * y.toInt ∧ -4611686018427387904 ≤ x.toInt * y.toInt ∧ x.toInt * y.toInt ≤ 4611686018427387904 := by
  obtain ⟨a1, a2⟩ := hx; obtain ⟨b1, b2⟩ := hy
  obtain ⟨m1, m2, m3, m4⟩ := mc a1 a2 b1 b2
  have e := c_lmul x y; have l1 := (x * y).toInt_lt; have l2 := (x * y).le_toInt
  generalize x.toInt * y.toInt = P at *
  refine ⟨by omega, by omega, by omega⟩
theorem own_mulF {x y : Int64} (hx : own_B x) (hy : own_B y) : ¬ (x * y) = (-9223372036854775808 : Int64) := fun h => by
  have := own_mul hx hy; rw [h] at this; have e : (-9223372036854775808 : Int64).toInt = -9223372036854775808 := rfl; omega
theorem own_mulD {x y : Int64} (hx : own_B x) (hy : own_B y) (h0 : ¬ y = 0) : (x * y) / y = x := by
  have m := own_mul hx hy
  have y0 : y.toInt ≠ 0 := fun q => h0 (Int64.toInt_inj.mp q)
  apply Int64.toInt_inj.mp
  rw [Int64.toInt_div, m.1, Int.mul_tdiv_cancel _ y0]
  have := hx; unfold own_B at this
  exact Int.bmod_eq_of_le (by omega) (by omega)
theorem own_mulI {x x' y : Int64} (hx : own_B x) (hx' : own_B x') (hy : own_B y) (h0 : ¬ y = 0) (h : x * y = x' * y) : x = x' := by rw [← own_mulD hx hy h0, h, own_mulD hx' hy h0]
theorem own_Bne {x : Int64} (h : own_B x) : ¬ x = (-9223372036854775808 : Int64) := fun q => by rw [q] at h; unfold own_B at h; have e : (-9223372036854775808 : Int64).toInt = -9223372036854775808 := rfl; omega
theorem own_Bi (x : Int32) : own_B x.toInt64 := by unfold own_B; rw [c_i2l]; have := x.toInt_lt; have := x.le_toInt; omega
def own_PS (K : Nat → Int64) (f : Int64) (i : Nat) (x : Int64) : Prop := ∃ j, j < i ∧ K j ≠ own_FREE ∧ K j * f = x
theorem own_psS {K K2 W W2 : Nat → Int64} {n2 : Nat} {hs2 : Int64 → Nat} {f g : Int64} {i : Nat} (h : K i = own_FREE) (R : ∃ D2 M2, own_Rep K2 W2 n2 hs2 D2 M2 (own_cnt K i) ∧ (∀ x, D2 x ↔ own_PS K f i x) ∧ (∀ j, j < i → K j ≠ own_FREE → M2 (K j * f) = W j * g)) :
    ∃ D2 M2, own_Rep K2 W2 n2 hs2 D2 M2 (own_cnt K (i + 1)) ∧ (∀ x, D2 x ↔ own_PS K f (i + 1) x) ∧ (∀ j, j < i + 1 → K j ≠ own_FREE → M2 (K j * f) = W j * g) := by
  obtain ⟨D2, M2, r, a, b⟩ := R
  refine ⟨D2, M2, by rw [own_cntS h]; exact r, fun x => (a x).trans ⟨fun ⟨j, p, q, s⟩ => ⟨j, by omega, q, s⟩, fun ⟨j, p, q, s⟩ => ⟨j, ?_, q, s⟩⟩, fun j hj hn => b j ?_ hn⟩
  · by_cases z : j = i
    · subst z; exact absurd h q
    · omega
  · by_cases z : j = i
    · subst z; exact absurd h hn
    · omega
theorem own_psP {K K2 W W2 : Nat → Int64} {n n2 : Nat} {hs2 : Int64 → Nat} {f g : Int64} {i j2 : Nat} (h : ¬ K i = own_FREE) (hi : i < n) (hF : ¬ K i * f = own_FREE) (hinj : ∀ a b, a < n → b < n → K a ≠ own_FREE → K b ≠ own_FREE → K a * f = K b * f → a = b) (hj : j2 < n2) (I : own_Idx K2 n2 (hs2 (K i * f)) (K i * f) j2)
    (R : ∃ D2 M2, own_Rep K2 W2 n2 hs2 D2 M2 (own_cnt K i) ∧ (∀ x, D2 x ↔ own_PS K f i x) ∧ (∀ j, j < i → K j ≠ own_FREE → M2 (K j * f) = W j * g)) :
    ∃ D2 M2, own_Rep (own_upd K2 j2 (K i * f)) (own_upd W2 j2 (W i * g)) n2 hs2 D2 M2 (own_cnt K (i + 1)) ∧ (∀ x, D2 x ↔ own_PS K f (i + 1) x) ∧ (∀ j, j < i + 1 → K j ≠ own_FREE → M2 (K j * f) = W j * g) := by
  obtain ⟨D2, M2, r, a, b⟩ := R
  have hf : K2 j2 = own_FREE := by
    obtain ⟨-, -, -, q | q⟩ := id I
    · obtain ⟨j, p1, p2, p3⟩ := (a _).mp (own_rep_dom r hj hF q).1
      have := hinj j i (by omega) hi p2 h p3
      omega
    · exact q
  refine ⟨_, _, by rw [own_cntP h]; exact own_rep_put r hj hF I hf (W i * g), fun x => ?_, fun j hj' hn => ?_⟩
  · constructor
    · rintro (q | rfl)
      · obtain ⟨j, p1, p2, p3⟩ := (a x).mp q; exact ⟨j, by omega, p2, p3⟩
      · exact ⟨i, by omega, h, rfl⟩
    · rintro ⟨j, p1, p2, p3⟩
      by_cases z : j = i
      · subst z; exact Or.inr p3.symm
      · exact Or.inl ((a x).mpr ⟨j, by omega, p2, p3⟩)
  · show (if K j * f = K i * f then W i * g else M2 (K j * f)) = W j * g
    by_cases z : j = i
    · subst z; rw [if_pos rfl]
    · have : ¬ K j * f = K i * f := fun q => z (hinj j i (by omega) hi hn h q)
      rw [if_neg this]; exact b j (by omega) hn
theorem own_st7 {a b c d e f g : Slot} {s7 s8 : Slot} {v : Int64} (h : (s7 = .unset ∧ s8 = .unset) ∨ ∃ w, s7 = .val (.long w) ∧ s8 = .second) : storeLocals #[a, b, c, d, e, f, g, s7, s8] 7 (.long v) = some #[a, b, c, d, e, f, g, .val (.long v), .second] := by
  rcases h with ⟨rfl, rfl⟩ | ⟨w, rfl, rfl⟩ <;> first | rfl | (cases g <;> rfl) | (simp [storeLocals]; done)

theorem d11_0 : decode jdk_29_method_61_code 0 = .ok (.lload_n 0, 1) := by decide +kernel
theorem d11_1 : decode jdk_29_method_61_code 1 = .ok (.lconst 0, 1) := by decide +kernel
theorem d11_2 : decode jdk_29_method_61_code 2 = .ok (.lcmp, 1) := by decide +kernel
theorem d11_3 : decode jdk_29_method_61_code 3 = .ok (.ifCond .ge 8, 3) := by decide +kernel
theorem d11_6 : decode jdk_29_method_61_code 6 = .ok (.lload_n 0, 1) := by decide +kernel
theorem d11_7 : decode jdk_29_method_61_code 7 = .ok (.lneg, 1) := by decide +kernel
theorem d11_8 : decode jdk_29_method_61_code 8 = .ok (.goto 4, 3) := by decide +kernel
theorem d11_11 : decode jdk_29_method_61_code 11 = .ok (.lload_n 0, 1) := by decide +kernel
theorem d11_12 : decode jdk_29_method_61_code 12 = .ok (.lreturn, 1) := by decide +kernel
theorem ef_rmb (m : MethodId) (q1 : Int64) : entryFrame m #[(.long q1)] 2 = mkF m 0 #[.val (.long q1), .second] [] := by first | (simp [entryFrame, mkF, argsToLocals, Value.category]; done) | rfl
def Qrmb (Z : State) (q1 : Int64) (h0 : Heap) (n0 : Nat) (v : Option Value) (h : Heap) (L : List Loc) : Prop := ∃ z : Int64, z = (if q1 < (0 : Int64) then -q1 else q1) ∧ v = some (.long z) ∧ Fr n0 L ∧ h = h0
set_option maxRecDepth 65536 in
set_option maxHeartbeats 40000000 in
theorem rmb (l : Launch) (Z : State) (a0 : Array Value) (hw : ∀ d ∈ tables_1, d.before a0 Z = true) (ws : List Jvm.Cond) (q1 : Int64) (h0 : Heap) (n0 : Nat) (Z0 : n0 ≤ h0.size) :
    MetFree l (⟨"java/lang/Math", "abs", "(J)J"⟩ : MethodName) (head1 (Jvm.Cond.code (⟨"java/lang/Math", "abs", "(J)J"⟩ : MethodName) jdk_29_method_61_code 2 (some .long) :: ws) ({ frames := 0, cells := 0, slots := 0, locals := 0 } : Room)) (fun a U => a = #[(.long q1)] ∧ Z.Warmed39 U.vm ∧ U.heap = h0) (fun _ _ _ _ _ => True) (fun _ U o U' => ∃ v L, o = .returned v ∧ Qrmb Z q1 h0 n0 v U'.heap L ∧ FrameEnd U o U' L ({ frames := 0, cells := 0, slots := 0, locals := 0 } : Room).cells ({ frames := 0, cells := 0, slots := 0, locals := 0 } : Room).slots) := by
  refine MetFree.of_bodySF (Jvm.Free.JP.mathPlain rfl (by decide +kernel)) hisR ?_
  intro p e s m args below meth c s₁ Bd hml0 hP hK
  obtain ⟨rfl, hZ, hh⟩ := hP
  have hx := Bd.exec
  have hby := Bd.bytes
  have hml : c.maxLocals = 2 := hml0
  have hown : s.vm.findClass "java/lang/Math" = some m.cls := findClass_of_methodNamed Bd.named
  have hnm := (name_of_methodNamed Bd.named Bd.method).1
  have X0 : Stand p l e ({ frames := 0, cells := 0, slots := 0, locals := 0 } : Room) s m #[(.long q1)] below meth c s₁ [] 0 0 := Stand.of_body Bd
  have e0 : s₁.heap = h0 := by rw [← hh, Bd.state]; rfl
  have N0 := Fr.nil n0
  have pre0 : ∀ t, Steps p.tables e below (s₁.setTop (mkF m 0 #[.val (.long q1), .second] [])) t → Steps p.tables e below (s₁.setTop (entryFrame m #[(.long q1)] 2)) t := fun t k => castTop (ef_rmb m q1) k
  by_cases hc3 : q1 < (0 : Int64)
  · obtain ⟨fs, hr, hrun, hended, hW, hsame⟩ := X0.leave (v := some (.long (-q1))) (fun h => by rw [Bd.returns] at h; cases h) (BodyLoose.notSynchronized Bd)
    refine ⟨_, _, pre0 _ ?_, hrun, hended, _, _, rfl, ?_, ⟨_, rfl⟩, hW, hsame.mono (by decide) (by decide)⟩
    · show Steps p.tables e below (s₁.setTop (mkF m 0 #[.val (.long q1), .second] [])) _
      refine XS.lloadN X0.here hx rfl (hb hby d11_0) rfl ?_
      refine XS.lconst X0.here hx rfl (hb hby d11_1) ?_
      refine XS.lcmp X0.here hx rfl (hb hby d11_2) rfl ?_
      refine XS.ifNo X0.here hx rfl (hb hby d11_3) rfl ((if0 _ _).trans (tlt (own_lclt hc3)).2.1) ?_
      refine XS.lloadN X0.here hx rfl (hb hby d11_6) rfl ?_
      refine XS.lneg X0.here hx rfl (hb hby d11_7) rfl ?_
      refine XS.goto X0.here hx rfl (pc0 := 8) (pc' := 12) rfl (hb hby d11_8) (by decide) (by decide) ?_
      show Steps p.tables e below (s₁.setTop (mkF m 12 #[.val (.long q1), .second] [(.long (-q1))])) _
      exact X0.lreturnOut hx Bd.returns (hb hby d11_12) hr
    · show Qrmb Z q1 h0 n0 _ s₁.heap _
      exact ⟨_, by simp [*], rfl, N0, e0⟩
  · obtain ⟨fs, hr, hrun, hended, hW, hsame⟩ := X0.leave (v := some (.long q1)) (fun h => by rw [Bd.returns] at h; cases h) (BodyLoose.notSynchronized Bd)
    refine ⟨_, _, pre0 _ ?_, hrun, hended, _, _, rfl, ?_, ⟨_, rfl⟩, hW, hsame.mono (by decide) (by decide)⟩
    · show Steps p.tables e below (s₁.setTop (mkF m 0 #[.val (.long q1), .second] [])) _
      refine XS.lloadN X0.here hx rfl (hb hby d11_0) rfl ?_
      refine XS.lconst X0.here hx rfl (hb hby d11_1) ?_
      refine XS.lcmp X0.here hx rfl (hb hby d11_2) rfl ?_
      refine XS.ifYes X0.here hx rfl (pc0 := 3) (pc' := 11) rfl (hb hby d11_3) rfl ((if0 _ _).trans (flt (own_lcnlt hc3)).2.1) (by decide) (by decide) ?_
      refine XS.lloadN X0.here hx rfl (hb hby d11_11) rfl ?_
      show Steps p.tables e below (s₁.setTop (mkF m 12 #[.val (.long q1), .second] [(.long q1)])) _
      exact X0.lreturnOut hx Bd.returns (hb hby d11_12) hr
    · show Qrmb Z q1 h0 n0 _ s₁.heap _
      exact ⟨_, by simp [*], rfl, N0, e0⟩
theorem d10_0 : decode jdk_29_method_30_code 0 = .ok (.lload_n 0, 1) := by decide +kernel
theorem d10_1 : decode jdk_29_method_30_code 1 = .ok (.lload_n 2, 1) := by decide +kernel
theorem d10_2 : decode jdk_29_method_30_code 2 = .ok (.lmul, 1) := by decide +kernel
theorem d10_3 : decode jdk_29_method_30_code 3 = .ok (.lstore 4, 2) := by decide +kernel
theorem d10_5 : decode jdk_29_method_30_code 5 = .ok (.lload_n 0, 1) := by decide +kernel
theorem d10_6 : decode jdk_29_method_30_code 6 = .ok (.invokestatic 122, 3) := by decide +kernel
theorem d10_9 : decode jdk_29_method_30_code 9 = .ok (.lstore 6, 2) := by decide +kernel
theorem d10_11 : decode jdk_29_method_30_code 11 = .ok (.lload_n 2, 1) := by decide +kernel
theorem d10_12 : decode jdk_29_method_30_code 12 = .ok (.invokestatic 122, 3) := by decide +kernel
theorem d10_15 : decode jdk_29_method_30_code 15 = .ok (.lstore 8, 2) := by decide +kernel
theorem d10_17 : decode jdk_29_method_30_code 17 = .ok (.lload 6, 2) := by decide +kernel
theorem d10_19 : decode jdk_29_method_30_code 19 = .ok (.lload 8, 2) := by decide +kernel
theorem d10_21 : decode jdk_29_method_30_code 21 = .ok (.lor, 1) := by decide +kernel
theorem d10_22 : decode jdk_29_method_30_code 22 = .ok (.bipush 31, 2) := by decide +kernel
theorem d10_24 : decode jdk_29_method_30_code 24 = .ok (.lushr, 1) := by decide +kernel
theorem d10_25 : decode jdk_29_method_30_code 25 = .ok (.lconst 0, 1) := by decide +kernel
theorem d10_26 : decode jdk_29_method_30_code 26 = .ok (.lcmp, 1) := by decide +kernel
theorem d10_27 : decode jdk_29_method_30_code 27 = .ok (.ifCond .eq 44, 3) := by decide +kernel
theorem d10_30 : decode jdk_29_method_30_code 30 = .ok (.lload_n 2, 1) := by decide +kernel
theorem d10_31 : decode jdk_29_method_30_code 31 = .ok (.lconst 0, 1) := by decide +kernel
theorem d10_32 : decode jdk_29_method_30_code 32 = .ok (.lcmp, 1) := by decide +kernel
theorem d10_33 : decode jdk_29_method_30_code 33 = .ok (.ifCond .eq 12, 3) := by decide +kernel
theorem d10_36 : decode jdk_29_method_30_code 36 = .ok (.lload 4, 2) := by decide +kernel
theorem d10_38 : decode jdk_29_method_30_code 38 = .ok (.lload_n 2, 1) := by decide +kernel
theorem d10_39 : decode jdk_29_method_30_code 39 = .ok (.ldiv, 1) := by decide +kernel
theorem d10_40 : decode jdk_29_method_30_code 40 = .ok (.lload_n 0, 1) := by decide +kernel
theorem d10_41 : decode jdk_29_method_30_code 41 = .ok (.lcmp, 1) := by decide +kernel
theorem d10_42 : decode jdk_29_method_30_code 42 = .ok (.ifCond .ne 19, 3) := by decide +kernel
theorem d10_45 : decode jdk_29_method_30_code 45 = .ok (.lload_n 0, 1) := by decide +kernel
theorem d10_46 : decode jdk_29_method_30_code 46 = .ok (.ldc2_w 128, 3) := by decide +kernel
theorem d10_49 : decode jdk_29_method_30_code 49 = .ok (.lcmp, 1) := by decide +kernel
theorem d10_50 : decode jdk_29_method_30_code 50 = .ok (.ifCond .ne 21, 3) := by decide +kernel
theorem d10_71 : decode jdk_29_method_30_code 71 = .ok (.lload 4, 2) := by decide +kernel
theorem d10_73 : decode jdk_29_method_30_code 73 = .ok (.lreturn, 1) := by decide +kernel
theorem ef_rmx (m : MethodId) (q1 : Int64) (q2 : Int64) : entryFrame m #[(.long q1), (.long q2)] 10 = mkF m 0 #[.val (.long q1), .second, .val (.long q2), .second, .unset, .unset, .unset, .unset, .unset, .unset] [] := by first | (simp [entryFrame, mkF, argsToLocals, Value.category]; done) | rfl
def Qrmx (Z : State) (q1 : Int64) (q2 : Int64) (h0 : Heap) (n0 : Nat) (v : Option Value) (h : Heap) (L : List Loc) : Prop := ∃ z : Int64, z = (q1 * q2) ∧ v = some (.long z) ∧ Fr n0 L ∧ h = h0
set_option maxRecDepth 65536 in
set_option maxHeartbeats 40000000 in
theorem rmx (l : Launch) (Z : State) (a0 : Array Value) (hw : ∀ d ∈ tables_1, d.before a0 Z = true) (ws : List Jvm.Cond) (q1 : Int64) (q2 : Int64) (h0 : Heap) (n0 : Nat) (Z0 : n0 ≤ h0.size) (hx1 : own_B q1) (hy1 : own_B q2) :
    MetFree l (⟨"java/lang/Math", "multiplyExact", "(JJ)J"⟩ : MethodName) (head1 (Jvm.Cond.code (⟨"java/lang/Math", "multiplyExact", "(JJ)J"⟩ : MethodName) jdk_29_method_30_code 10 (some .long) :: ws) ({ frames := 1, cells := 0, slots := 0, locals := 13 } : Room)) (fun a U => a = #[(.long q1), (.long q2)] ∧ Z.Warmed39 U.vm ∧ U.heap = h0) (fun _ _ _ _ _ => True) (fun _ U o U' => ∃ v L, o = .returned v ∧ Qrmx Z q1 q2 h0 n0 v U'.heap L ∧ FrameEnd U o U' L ({ frames := 1, cells := 0, slots := 0, locals := 13 } : Room).cells ({ frames := 1, cells := 0, slots := 0, locals := 13 } : Room).slots) := by
  refine MetFree.of_bodySF (Jvm.Free.JP.mathPlain rfl (by decide +kernel)) hisR ?_
  intro p e s m args below meth c s₁ Bd hml0 hP hK
  obtain ⟨rfl, hZ, hh⟩ := hP
  have hx := Bd.exec
  have hby := Bd.bytes
  have hml : c.maxLocals = 10 := hml0
  have hown : s.vm.findClass "java/lang/Math" = some m.cls := findClass_of_methodNamed Bd.named
  have hnm := (name_of_methodNamed Bd.named Bd.method).1
  have X0 : Stand p l e ({ frames := 1, cells := 0, slots := 0, locals := 13 } : Room) s m #[(.long q1), (.long q2)] below meth c s₁ [] 0 0 := Stand.of_body Bd
  have e0 : s₁.heap = h0 := by rw [← hh, Bd.state]; rfl
  have N0 := Fr.nil n0
  have pre0 : ∀ t, Steps p.tables e below (s₁.setTop (mkF m 0 #[.val (.long q1), .second, .val (.long q2), .second, .unset, .unset, .unset, .unset, .unset, .unset] [])) t → Steps p.tables e below (s₁.setTop (entryFrame m #[(.long q1), (.long q2)] 10)) t := fun t k => castTop (ef_rmx m q1 q2) k
  obtain ⟨_, _, ⟨T1, Lq1, kq1, nq1⟩, -, X1, ⟨Lc1, hQ1, lq1, yq1, zq1⟩, st1⟩ := Jvm.LawKit.callS X0 hx (y := (⟨"java/lang/Math", "abs", "(J)J"⟩ : MethodName)) hown (mvT hZ (hw _ (own_w 54 rfl))) (mvT hZ (hw _ (own_w 55 rfl))) (mvT hZ (hw _ (own_w 52 rfl))) (mvT hZ (hw _ (own_w 56 rfl))) (by decide) (backOf (W := 0) (rmb l Z a0 hw [] q1  h0 n0 Z0 ) hZ (hw _ (own_w 56 rfl)) (hw _ (own_w 52 rfl)) (by decide) (by decide)) (g := (mkF m 6 #[.val (.long q1), .second, .val (.long q2), .second, .val (.long (q1 * q2)), .second, .unset, .unset, .unset, .unset] [(.long q1)])) rfl (by rw [hml]; rfl) (argsL := [(.long q1)]) (rest := []) (lenOf pd_4 rfl) rfl (by show 2 * 0 + _ ≤ _; exact Nat.le_of_eq rfl) (hb hby d10_6) (fun _ _ => ⟨rfl, e0, (by decide : 0 + 0 ≤ _), (by decide : 0 + 0 ≤ _)⟩)
  dsimp only [Pt.U, Pt.locs, Pt.cells, Pt.slots] at X1 lq1 yq1 zq1 st1 hQ1
  subst lq1 yq1 zq1
  obtain ⟨r1, hr1, rfl, N1q, e1⟩ := hQ1
  have N1 := Fr.app N0 N1q
  obtain ⟨_, _, ⟨T2, Lq2, kq2, nq2⟩, -, X2, ⟨Lc2, hQ2, lq2, yq2, zq2⟩, st2⟩ := Jvm.LawKit.callS X1 hx (y := (⟨"java/lang/Math", "abs", "(J)J"⟩ : MethodName)) hown (mvT hZ (hw _ (own_w 54 rfl))) (mvT hZ (hw _ (own_w 55 rfl))) (mvT hZ (hw _ (own_w 52 rfl))) (mvT hZ (hw _ (own_w 56 rfl))) (by decide) (backOf (W := 0) (rmb l Z a0 hw [] q2  h0 n0 Z0 ) hZ (hw _ (own_w 56 rfl)) (hw _ (own_w 52 rfl)) (by decide) (by decide)) (g := (mkF m 12 #[.val (.long q1), .second, .val (.long q2), .second, .val (.long (q1 * q2)), .second, .val (.long r1), .second, .unset, .unset] [(.long q2)])) rfl (by rw [hml]; rfl) (argsL := [(.long q2)]) (rest := []) (lenOf pd_4 rfl) rfl (by show 2 * 0 + _ ≤ _; exact Nat.le_of_eq rfl) (hb hby d10_12) (fun _ _ => ⟨rfl, e1, (by decide : 0 + 0 ≤ _), (by decide : 0 + 0 ≤ _)⟩)
  dsimp only [Pt.U, Pt.locs, Pt.cells, Pt.slots] at X2 lq2 yq2 zq2 st2 hQ2
  subst lq2 yq2 zq2
  obtain ⟨r2, hr2, rfl, N2q, e2⟩ := hQ2
  have N2 := Fr.app N1 N2q
  by_cases hc27 : (((r1 ||| r2).toUInt64 >>> ((31 : Int32) &&& 0x3f).toInt64.toUInt64).toInt64) = (0 : Int64)
  · obtain ⟨fs, hr, hrun, hended, hW, hsame⟩ := X2.leave (v := some (.long (q1 * q2))) (fun h => by rw [Bd.returns] at h; cases h) (BodyLoose.notSynchronized Bd)
    refine ⟨_, _, pre0 _ ?_, hrun, hended, _, _, rfl, ?_, ⟨_, rfl⟩, hW, hsame.mono (by decide) (by decide)⟩
    · show Steps p.tables e below (s₁.setTop (mkF m 0 #[.val (.long q1), .second, .val (.long q2), .second, .unset, .unset, .unset, .unset, .unset, .unset] [])) _
      refine XS.lloadN X0.here hx rfl (hb hby d10_0) rfl ?_
      refine XS.lloadN X0.here hx rfl (hb hby d10_1) rfl ?_
      refine XS.lmul X0.here hx rfl (hb hby d10_2) rfl ?_
      refine XS.lstore X0.here hx rfl (hb hby d10_3) rfl (l' := #[.val (.long q1), .second, .val (.long q2), .second, .val (.long (q1 * q2)), .second, .unset, .unset, .unset, .unset]) rfl ?_
      refine XS.lloadN X0.here hx rfl (hb hby d10_5) rfl ?_
      refine st1 _ ?_
      refine XS.lstore X1.here hx rfl (hb hby d10_9) rfl (l' := #[.val (.long q1), .second, .val (.long q2), .second, .val (.long (q1 * q2)), .second, .val (.long r1), .second, .unset, .unset]) rfl ?_
      refine XS.lloadN X1.here hx rfl (hb hby d10_11) rfl ?_
      refine st2 _ ?_
      refine XS.lstore X2.here hx rfl (hb hby d10_15) rfl (l' := #[.val (.long q1), .second, .val (.long q2), .second, .val (.long (q1 * q2)), .second, .val (.long r1), .second, .val (.long r2), .second]) rfl ?_
      refine XS.lload X2.here hx rfl (hb hby d10_17) rfl ?_
      refine XS.lload X2.here hx rfl (hb hby d10_19) rfl ?_
      refine XS.lor X2.here hx rfl (hb hby d10_21) rfl ?_
      refine XS.bipush X2.here hx rfl (hb hby d10_22) ?_
      refine XS.lushr X2.here hx rfl (hb hby d10_24) rfl ?_
      refine XS.lconst X2.here hx rfl (hb hby d10_25) ?_
      refine XS.lcmp X2.here hx rfl (hb hby d10_26) rfl ?_
      refine XS.ifYes X2.here hx rfl (pc0 := 27) (pc' := 71) rfl (hb hby d10_27) rfl ((if0 _ _).trans (teq (own_lceq hc27)).1) (by decide) (by decide) ?_
      refine XS.lload X2.here hx rfl (hb hby d10_71) rfl ?_
      show Steps p.tables e below (T2.setTop (mkF m 73 #[.val (.long q1), .second, .val (.long q2), .second, .val (.long (q1 * q2)), .second, .val (.long r1), .second, .val (.long r2), .second] [(.long (q1 * q2))])) _
      exact X2.lreturnOut hx Bd.returns (hb hby d10_73) hr
    · show Qrmx Z q1 q2 h0 n0 _ T2.heap _
      exact ⟨_, rfl, rfl, N2, e2⟩
  · by_cases hc33 : q2 = (0 : Int64)
    · obtain ⟨fs, hr, hrun, hended, hW, hsame⟩ := X2.leave (v := some (.long (q1 * q2))) (fun h => by rw [Bd.returns] at h; cases h) (BodyLoose.notSynchronized Bd)
      refine ⟨_, _, pre0 _ ?_, hrun, hended, _, _, rfl, ?_, ⟨_, rfl⟩, hW, hsame.mono (by decide) (by decide)⟩
      · show Steps p.tables e below (s₁.setTop (mkF m 0 #[.val (.long q1), .second, .val (.long q2), .second, .unset, .unset, .unset, .unset, .unset, .unset] [])) _
        refine XS.lloadN X0.here hx rfl (hb hby d10_0) rfl ?_
        refine XS.lloadN X0.here hx rfl (hb hby d10_1) rfl ?_
        refine XS.lmul X0.here hx rfl (hb hby d10_2) rfl ?_
        refine XS.lstore X0.here hx rfl (hb hby d10_3) rfl (l' := #[.val (.long q1), .second, .val (.long q2), .second, .val (.long (q1 * q2)), .second, .unset, .unset, .unset, .unset]) rfl ?_
        refine XS.lloadN X0.here hx rfl (hb hby d10_5) rfl ?_
        refine st1 _ ?_
        refine XS.lstore X1.here hx rfl (hb hby d10_9) rfl (l' := #[.val (.long q1), .second, .val (.long q2), .second, .val (.long (q1 * q2)), .second, .val (.long r1), .second, .unset, .unset]) rfl ?_
        refine XS.lloadN X1.here hx rfl (hb hby d10_11) rfl ?_
        refine st2 _ ?_
        refine XS.lstore X2.here hx rfl (hb hby d10_15) rfl (l' := #[.val (.long q1), .second, .val (.long q2), .second, .val (.long (q1 * q2)), .second, .val (.long r1), .second, .val (.long r2), .second]) rfl ?_
        refine XS.lload X2.here hx rfl (hb hby d10_17) rfl ?_
        refine XS.lload X2.here hx rfl (hb hby d10_19) rfl ?_
        refine XS.lor X2.here hx rfl (hb hby d10_21) rfl ?_
        refine XS.bipush X2.here hx rfl (hb hby d10_22) ?_
        refine XS.lushr X2.here hx rfl (hb hby d10_24) rfl ?_
        refine XS.lconst X2.here hx rfl (hb hby d10_25) ?_
        refine XS.lcmp X2.here hx rfl (hb hby d10_26) rfl ?_
        refine XS.ifNo X2.here hx rfl (hb hby d10_27) rfl ((if0 _ _).trans (feq (own_lcne hc27)).1) ?_
        refine XS.lloadN X2.here hx rfl (hb hby d10_30) rfl ?_
        refine XS.lconst X2.here hx rfl (hb hby d10_31) ?_
        refine XS.lcmp X2.here hx rfl (hb hby d10_32) rfl ?_
        refine XS.ifYes X2.here hx rfl (pc0 := 33) (pc' := 45) rfl (hb hby d10_33) rfl ((if0 _ _).trans (teq (own_lceq hc33)).1) (by decide) (by decide) ?_
        refine XS.lloadN X2.here hx rfl (hb hby d10_45) rfl ?_
        refine X2.ldc2Long hx hown (mvT hZ (hw _ (own_w 93 rfl))) (g := (mkF m 46 #[.val (.long q1), .second, .val (.long q2), .second, .val (.long (q1 * q2)), .second, .val (.long r1), .second, .val (.long r2), .second] [(.long q1)])) rfl (hb hby d10_46) _ ?_
        refine XS.lcmp X2.here hx rfl (hb hby d10_49) rfl ?_
        refine XS.ifYes X2.here hx rfl (pc0 := 50) (pc' := 71) rfl (hb hby d10_50) rfl ((if0 _ _).trans (feq (own_lcne (own_Bne hx1))).2) (by decide) (by decide) ?_
        refine XS.lload X2.here hx rfl (hb hby d10_71) rfl ?_
        show Steps p.tables e below (T2.setTop (mkF m 73 #[.val (.long q1), .second, .val (.long q2), .second, .val (.long (q1 * q2)), .second, .val (.long r1), .second, .val (.long r2), .second] [(.long (q1 * q2))])) _
        exact X2.lreturnOut hx Bd.returns (hb hby d10_73) hr
      · show Qrmx Z q1 q2 h0 n0 _ T2.heap _
        exact ⟨_, rfl, rfl, N2, e2⟩
    · obtain ⟨fs, hr, hrun, hended, hW, hsame⟩ := X2.leave (v := some (.long (q1 * q2))) (fun h => by rw [Bd.returns] at h; cases h) (BodyLoose.notSynchronized Bd)
      refine ⟨_, _, pre0 _ ?_, hrun, hended, _, _, rfl, ?_, ⟨_, rfl⟩, hW, hsame.mono (by decide) (by decide)⟩
      · show Steps p.tables e below (s₁.setTop (mkF m 0 #[.val (.long q1), .second, .val (.long q2), .second, .unset, .unset, .unset, .unset, .unset, .unset] [])) _
        refine XS.lloadN X0.here hx rfl (hb hby d10_0) rfl ?_
        refine XS.lloadN X0.here hx rfl (hb hby d10_1) rfl ?_
        refine XS.lmul X0.here hx rfl (hb hby d10_2) rfl ?_
        refine XS.lstore X0.here hx rfl (hb hby d10_3) rfl (l' := #[.val (.long q1), .second, .val (.long q2), .second, .val (.long (q1 * q2)), .second, .unset, .unset, .unset, .unset]) rfl ?_
        refine XS.lloadN X0.here hx rfl (hb hby d10_5) rfl ?_
        refine st1 _ ?_
        refine XS.lstore X1.here hx rfl (hb hby d10_9) rfl (l' := #[.val (.long q1), .second, .val (.long q2), .second, .val (.long (q1 * q2)), .second, .val (.long r1), .second, .unset, .unset]) rfl ?_
        refine XS.lloadN X1.here hx rfl (hb hby d10_11) rfl ?_
        refine st2 _ ?_
        refine XS.lstore X2.here hx rfl (hb hby d10_15) rfl (l' := #[.val (.long q1), .second, .val (.long q2), .second, .val (.long (q1 * q2)), .second, .val (.long r1), .second, .val (.long r2), .second]) rfl ?_
        refine XS.lload X2.here hx rfl (hb hby d10_17) rfl ?_
        refine XS.lload X2.here hx rfl (hb hby d10_19) rfl ?_
        refine XS.lor X2.here hx rfl (hb hby d10_21) rfl ?_
        refine XS.bipush X2.here hx rfl (hb hby d10_22) ?_
        refine XS.lushr X2.here hx rfl (hb hby d10_24) rfl ?_
        refine XS.lconst X2.here hx rfl (hb hby d10_25) ?_
        refine XS.lcmp X2.here hx rfl (hb hby d10_26) rfl ?_
        refine XS.ifNo X2.here hx rfl (hb hby d10_27) rfl ((if0 _ _).trans (feq (own_lcne hc27)).1) ?_
        refine XS.lloadN X2.here hx rfl (hb hby d10_30) rfl ?_
        refine XS.lconst X2.here hx rfl (hb hby d10_31) ?_
        refine XS.lcmp X2.here hx rfl (hb hby d10_32) rfl ?_
        refine XS.ifNo X2.here hx rfl (hb hby d10_33) rfl ((if0 _ _).trans (feq (own_lcne hc33)).1) ?_
        refine XS.lload X2.here hx rfl (hb hby d10_36) rfl ?_
        refine XS.lloadN X2.here hx rfl (hb hby d10_38) rfl ?_
        refine XS.ldiv X2.here hx rfl (hb hby d10_39) rfl hc33 ?_
        refine XS.lloadN X2.here hx rfl (hb hby d10_40) rfl ?_
        refine XS.lcmp X2.here hx rfl (hb hby d10_41) rfl ?_
        refine XS.ifNo X2.here hx rfl (hb hby d10_42) rfl ((if0 _ _).trans (teq (own_lceq (own_mulD hx1 hy1 hc33))).2) ?_
        refine XS.lloadN X2.here hx rfl (hb hby d10_45) rfl ?_
        refine X2.ldc2Long hx hown (mvT hZ (hw _ (own_w 93 rfl))) (g := (mkF m 46 #[.val (.long q1), .second, .val (.long q2), .second, .val (.long (q1 * q2)), .second, .val (.long r1), .second, .val (.long r2), .second] [(.long q1)])) rfl (hb hby d10_46) _ ?_
        refine XS.lcmp X2.here hx rfl (hb hby d10_49) rfl ?_
        refine XS.ifYes X2.here hx rfl (pc0 := 50) (pc' := 71) rfl (hb hby d10_50) rfl ((if0 _ _).trans (feq (own_lcne (own_Bne hx1))).2) (by decide) (by decide) ?_
        refine XS.lload X2.here hx rfl (hb hby d10_71) rfl ?_
        show Steps p.tables e below (T2.setTop (mkF m 73 #[.val (.long q1), .second, .val (.long q2), .second, .val (.long (q1 * q2)), .second, .val (.long r1), .second, .val (.long r2), .second] [(.long (q1 * q2))])) _
        exact X2.lreturnOut hx Bd.returns (hb hby d10_73) hr
      · show Qrmx Z q1 q2 h0 n0 _ T2.heap _
        exact ⟨_, rfl, rfl, N2, e2⟩
theorem pd_9 : parseMethodDescriptor "(JJ)J" = some ⟨[.long, .long], some .long⟩ := by decide +kernel
theorem d9_19 : decode prog_19_method_6_code 19 = .ok (.iload 6, 2) := by decide +kernel
theorem d9_21 : decode prog_19_method_6_code 21 = .ok (.aload_n 0, 1) := by decide +kernel
theorem d9_22 : decode prog_19_method_6_code 22 = .ok (.getfield 14, 3) := by decide +kernel
theorem d9_25 : decode prog_19_method_6_code 25 = .ok (.arraylength, 1) := by decide +kernel
theorem d9_26 : decode prog_19_method_6_code 26 = .ok (.if_icmp .ge 59, 3) := by decide +kernel
theorem d9_29 : decode prog_19_method_6_code 29 = .ok (.aload_n 0, 1) := by decide +kernel
theorem d9_30 : decode prog_19_method_6_code 30 = .ok (.getfield 14, 3) := by decide +kernel
theorem d9_33 : decode prog_19_method_6_code 33 = .ok (.iload 6, 2) := by decide +kernel
theorem d9_35 : decode prog_19_method_6_code 35 = .ok (.laload, 1) := by decide +kernel
theorem d9_36 : decode prog_19_method_6_code 36 = .ok (.ldc2_w 18, 3) := by decide +kernel
theorem d9_39 : decode prog_19_method_6_code 39 = .ok (.lcmp, 1) := by decide +kernel
theorem d9_40 : decode prog_19_method_6_code 40 = .ok (.ifCond .eq 39, 3) := by decide +kernel
theorem d9_43 : decode prog_19_method_6_code 43 = .ok (.aload_n 0, 1) := by decide +kernel
theorem d9_44 : decode prog_19_method_6_code 44 = .ok (.getfield 14, 3) := by decide +kernel
theorem d9_47 : decode prog_19_method_6_code 47 = .ok (.iload 6, 2) := by decide +kernel
theorem d9_49 : decode prog_19_method_6_code 49 = .ok (.laload, 1) := by decide +kernel
theorem d9_50 : decode prog_19_method_6_code 50 = .ok (.lload_n 1, 1) := by decide +kernel
theorem d9_51 : decode prog_19_method_6_code 51 = .ok (.invokestatic 56, 3) := by decide +kernel
theorem d9_54 : decode prog_19_method_6_code 54 = .ok (.invokestatic 28, 3) := by decide +kernel
theorem d9_57 : decode prog_19_method_6_code 57 = .ok (.lstore 7, 2) := by decide +kernel
theorem d9_59 : decode prog_19_method_6_code 59 = .ok (.aload 5, 2) := by decide +kernel
theorem d9_61 : decode prog_19_method_6_code 61 = .ok (.lload 7, 2) := by decide +kernel
theorem d9_63 : decode prog_19_method_6_code 63 = .ok (.aload_n 0, 1) := by decide +kernel
theorem d9_64 : decode prog_19_method_6_code 64 = .ok (.getfield 14, 3) := by decide +kernel
theorem d9_67 : decode prog_19_method_6_code 67 = .ok (.iload 6, 2) := by decide +kernel
theorem d9_69 : decode prog_19_method_6_code 69 = .ok (.iconst 1, 1) := by decide +kernel
theorem d9_70 : decode prog_19_method_6_code 70 = .ok (.iadd, 1) := by decide +kernel
theorem d9_71 : decode prog_19_method_6_code 71 = .ok (.laload, 1) := by decide +kernel
theorem d9_72 : decode prog_19_method_6_code 72 = .ok (.lload_n 3, 1) := by decide +kernel
theorem d9_73 : decode prog_19_method_6_code 73 = .ok (.invokestatic 56, 3) := by decide +kernel
theorem d9_76 : decode prog_19_method_6_code 76 = .ok (.invokevirtual 59, 3) := by decide +kernel
theorem d9_79 : decode prog_19_method_6_code 79 = .ok (.iinc 6 2, 3) := by decide +kernel
theorem d9_82 : decode prog_19_method_6_code 82 = .ok (.goto (-63), 3) := by decide +kernel
set_option maxRecDepth 65536 in
set_option maxHeartbeats 40000000 in
theorem own_sc {p : Program} {l : Launch} {e : Env} {R : Room} {s : State} {m : MethodId} {args : Array Value} {below : List Frame} {meth : Method} {c : Code} {cells slots : Nat} {Z : State} {a0 : Array Value} {a1 a cp ca : Addr} {k ck : ClassId} {arr : List Int64} {n : Nat} {sh : Int32} {q2 q3 : Int64} {n0 : Nat} (hRf : 3 ≤ R.frames) (hRl : 64 ≤ R.locals) (hRc : cells ≤ R.cells) (hRs : slots ≤ R.slots) (hx : p.tables.exec = Jvm.exec) (hZ : Z.Warmed39 s.vm) (hw : ∀ d ∈ tables_1, d.before a0 Z = true) (hby : c.code = prog_19_method_6_code) (hml : c.maxLocals = 9) (hown : s.vm.findClass "com/example/pricewright/pricewright/core/LongSumTable" = some m.cls) (hns : (n = 4 ∧ sh = 62) ∨ (n = 8 ∧ sh = 61)) (hn : n = 4 ∨ n = 8) (hb2 : own_B q2) (hb3 : own_B q3) (hbK : ∀ i, i < n → ¬ own_K arr i = own_FREE → own_B (own_K arr i) ∧ own_B (own_W arr i)) (hinj : ∀ a b, a < n → b < n → own_K arr a ≠ own_FREE → own_K arr b ≠ own_FREE → own_K arr a * q2 = own_K arr b * q2 → a = b) (na : a ≠ ca) (n1 : a1 ≠ ca) (nc : cp ≠ ca) (gc : n0 ≤ ca) (f : Nat) :
    ∀ (i : Nat), i + f = n → ∀ (T0 : State) (h : Heap) (L0 : List Loc) (ar2 : List Int64) (s7 s8 : Slot), Stand p l e R s m args below meth c T0 L0 cells slots → T0.heap = h → Fr n0 L0 → n0 ≤ h.size → Fld Z h a1 "com/example/pricewright/pricewright/core/LongSumTable" "slots" "[J" (.ref a) → Arv Z h a k .long (Int32.ofNat (2 * n)) (arr.map Value.long) (.long (0 : Int64)) → Exa Z h cp "com/example/pricewright/pricewright/core/LongSumTable" → Fld Z h cp "com/example/pricewright/pricewright/core/LongSumTable" "slots" "[J" (.ref ca) → Fld Z h cp "com/example/pricewright/pricewright/core/LongSumTable" "shift" "I" (.int sh) → Arv Z h ca ck .long (Int32.ofNat (2 * n)) (ar2.map Value.long) (.long (0 : Int64)) → ar2.length = 2 * n → ((s7 = .unset ∧ s8 = .unset) ∨ ∃ w, s7 = .val (.long w) ∧ s8 = .second) → (∃ D2 M2, own_Rep (own_K ar2) (own_W ar2) n (own_hs n) D2 M2 (own_cnt (own_K arr) i) ∧ (∀ x, D2 x ↔ own_PS (own_K arr) q2 i x) ∧ (∀ j, j < i → own_K arr j ≠ own_FREE → M2 (own_K arr j * q2) = own_W arr j * q3)) →
    ∃ (T' : State) (h' : Heap) (L' : List Loc) (ar2 : List Int64) (s7' s8' : Slot), Stand p l e R s m args below meth c T' L' cells slots ∧ T'.heap = h' ∧ Fr n0 L' ∧ n0 ≤ h'.size ∧ Keep h h' [ca] ∧ ar2.length = 2 * n ∧ Arv Z h' ca ck .long (Int32.ofNat (2 * n)) (ar2.map Value.long) (.long (0 : Int64)) ∧ (∃ D2 M2, own_Rep (own_K ar2) (own_W ar2) n (own_hs n) D2 M2 (own_cnt (own_K arr) n) ∧ (∀ x, D2 x ↔ own_PS (own_K arr) q2 n x) ∧ (∀ j, j < n → own_K arr j ≠ own_FREE → M2 (own_K arr j * q2) = own_W arr j * q3)) ∧ ∀ target, Steps p.tables e below (T'.setTop (mkF m 85 #[.val (.ref a1), .val (.long q2), .second, .val (.long q3), .second, .val (.ref cp), .val (.int (own_p n)), s7', s8'] [])) target → Steps p.tables e below (T0.setTop (mkF m 19 #[.val (.ref a1), .val (.long q2), .second, .val (.long q3), .second, .val (.ref cp), .val (.int (own_p i)), s7, s8] [])) target := by
  induction f with
  | zero =>
    intro i hin T0 h L0 ar2 s7 s8 X0 e0 N0 Z0 FS AV CE CS CH CA hl2 LS RR
    have hie : n = i := by omega
    obtain ⟨T1, X1, e1, st1⟩ := getF X0 hx hZ hown (host := "") (Or.inl (hw _ (own_w 13 rfl))) Via.refl e0 FS (g := (mkF m 22 #[.val (.ref a1), .val (.long q2), .second, .val (.long q3), .second, .val (.ref cp), .val (.int (own_p i)), s7, s8] [(.ref a1), (.int (own_p i))])) rfl rfl (hb hby d9_22)
    obtain ⟨cl2, Ar2, qk2, Sz2, Nn2, Hh2, Gg2⟩ := id (AV)
    refine ⟨T1, _, _, ar2, s7, s8, X1, e1, N0, Z0, Keep.refl _ _, hl2, CA, by rw [← hie] at RR; exact RR, fun target kt => ?_⟩
    rw [show own_p n = own_p i by rw [hie]] at kt
    show Steps p.tables e below (T0.setTop (mkF m 19 #[.val (.ref a1), .val (.long q2), .second, .val (.long q3), .second, .val (.ref cp), .val (.int (own_p i)), s7, s8] [])) _
    refine XS.iload X0.here hx rfl (hb hby d9_19) rfl ?_
    refine XS.aloadN X0.here hx rfl (hb hby d9_21) rfl rfl ?_
    refine st1 _ ?_
    refine X1.arraylength hx (by rw [e1]; exact Ar2.1) (State.isArrayOf_alike hZ.alike Ar2.2.1) (g := (mkF m 25 #[.val (.ref a1), .val (.long q2), .second, .val (.long q3), .second, .val (.ref cp), .val (.int (own_p i)), s7, s8] [(.ref a), (.int (own_p i))])) rfl rfl (hb hby d9_25) _ ?_
    rw [len_of Sz2 Nn2]
    show Steps p.tables e below (T1.setTop (mkF m 26 #[.val (.ref a1), .val (.long q2), .second, .val (.long q3), .second, .val (.ref cp), .val (.int (own_p i)), s7, s8] [(.int (Int32.ofNat (2 * n))), (.int (own_p i))])) _
    refine XS.icmpYes X1.here hx rfl (pc0 := 26) (pc' := 85) rfl (hb hby d9_26) rfl (flt (by rw [← hie]; exact own_pend hn)).2.1 (by decide) (by decide) ?_
    exact kt
  | succ f ih =>
    intro i hin T0 h L0 ar2 s7 s8 X0 e0 N0 Z0 FS AV CE CS CH CA hl2 LS RR
    have hi : i < n := by omega
    obtain ⟨T1, X1, e1, st1⟩ := getF X0 hx hZ hown (host := "") (Or.inl (hw _ (own_w 13 rfl))) Via.refl e0 FS (g := (mkF m 22 #[.val (.ref a1), .val (.long q2), .second, .val (.long q3), .second, .val (.ref cp), .val (.int (own_p i)), s7, s8] [(.ref a1), (.int (own_p i))])) rfl rfl (hb hby d9_22)
    obtain ⟨cl2, Ar2, qk2, Sz2, Nn2, Hh2, Gg2⟩ := id (AV)
    obtain ⟨T3, X3, e3, st3⟩ := getF X1 hx hZ hown (host := "") (Or.inl (hw _ (own_w 13 rfl))) Via.refl e1 FS (g := (mkF m 30 #[.val (.ref a1), .val (.long q2), .second, .val (.long q3), .second, .val (.ref cp), .val (.int (own_p i)), s7, s8] [(.ref a1)])) rfl rfl (hb hby d9_30)
    obtain ⟨cl4, Ar4, qk4, Sz4, Nn4, Hh4, Gg4⟩ := id (AV)
    have hin5 : ¬ ((own_p i) < 0 ∨ cl4.slots.size ≤ ((own_p i)).toNatClampNeg) := inb_of Sz4 ⟨own_p0 (own_lt8 hi hn), own_plt hi hn⟩
    have hat5 : cl4.slots[((own_p i)).toNatClampNeg]? = some (.long (own_K arr i)) := Has.at Hh4 hin5 (own_ldK arr (own_lt8 hi hn))
    by_cases hc40 : (own_K arr i) = (-9223372036854775808 : Int64)
    · have RR' := own_psS hc40 RR
      obtain ⟨T', h', L', ar', s7', s8', X', e', N', Z', K', hl', A', R', st'⟩ := ih (i + 1) (by omega) T3 _ _ _ _ _ X3 e3 N0 Z0 FS AV CE CS CH CA hl2 LS RR' 
      refine ⟨T', h', L', ar', s7', s8', X', e', N', Z', K', hl', A', R', fun target kt => ?_⟩
      have kq := st' target kt
      rw [← own_pp (own_lt8 hi hn)] at kq
      show Steps p.tables e below (T0.setTop (mkF m 19 #[.val (.ref a1), .val (.long q2), .second, .val (.long q3), .second, .val (.ref cp), .val (.int (own_p i)), s7, s8] [])) _
      refine XS.iload X0.here hx rfl (hb hby d9_19) rfl ?_
      refine XS.aloadN X0.here hx rfl (hb hby d9_21) rfl rfl ?_
      refine st1 _ ?_
      refine X1.arraylength hx (by rw [e1]; exact Ar2.1) (State.isArrayOf_alike hZ.alike Ar2.2.1) (g := (mkF m 25 #[.val (.ref a1), .val (.long q2), .second, .val (.long q3), .second, .val (.ref cp), .val (.int (own_p i)), s7, s8] [(.ref a), (.int (own_p i))])) rfl rfl (hb hby d9_25) _ ?_
      rw [len_of Sz2 Nn2]
      show Steps p.tables e below (T1.setTop (mkF m 26 #[.val (.ref a1), .val (.long q2), .second, .val (.long q3), .second, .val (.ref cp), .val (.int (own_p i)), s7, s8] [(.int (Int32.ofNat (2 * n))), (.int (own_p i))])) _
      refine XS.icmpNo X1.here hx rfl (hb hby d9_26) rfl (tlt (own_plt hi hn)).2.1 ?_
      refine XS.aloadN X1.here hx rfl (hb hby d9_29) rfl rfl ?_
      refine st3 _ ?_
      refine XS.iload X3.here hx rfl (hb hby d9_33) rfl ?_
      refine X3.laload hx (j := (own_p i)) (v := (.long (own_K arr i))) (by rw [e3]; exact Ar4.1) (State.isArrayOf_alike hZ.alike Ar4.2.1) Ar4.2.2 hin5 hat5 (g := (mkF m 35 #[.val (.ref a1), .val (.long q2), .second, .val (.long q3), .second, .val (.ref cp), .val (.int (own_p i)), s7, s8] [(.int (own_p i)), (.ref a)])) rfl rfl (hb hby d9_35) _ ?_
      refine X3.ldc2Long hx hown (mvT hZ (hw _ (own_w 15 rfl))) (g := (mkF m 36 #[.val (.ref a1), .val (.long q2), .second, .val (.long q3), .second, .val (.ref cp), .val (.int (own_p i)), s7, s8] [(.long (own_K arr i))])) rfl (hb hby d9_36) _ ?_
      refine XS.lcmp X3.here hx rfl (hb hby d9_39) rfl ?_
      refine XS.ifYes X3.here hx rfl (pc0 := 40) (pc' := 79) rfl (hb hby d9_40) rfl ((if0 _ _).trans (teq (own_lceq hc40)).1) (by decide) (by decide) ?_
      refine XS.iinc X3.here hx rfl (hb hby d9_79) rfl (l' := #[.val (.ref a1), .val (.long q2), .second, .val (.long q3), .second, .val (.ref cp), .val (.int ((own_p i) + (2 : Int32))), s7, s8]) rfl ?_
      refine XS.goto X3.here hx rfl (pc0 := 82) (pc' := 19) rfl (hb hby d9_82) (by decide) (by decide) ?_
      exact kq
    · obtain ⟨T6, X6, e6, st6⟩ := getF X3 hx hZ hown (host := "") (Or.inl (hw _ (own_w 13 rfl))) Via.refl e3 FS (g := (mkF m 44 #[.val (.ref a1), .val (.long q2), .second, .val (.long q3), .second, .val (.ref cp), .val (.int (own_p i)), s7, s8] [(.ref a1)])) rfl rfl (hb hby d9_44)
      obtain ⟨cl7, Ar7, qk7, Sz7, Nn7, Hh7, Gg7⟩ := id (AV)
      have hin8 : ¬ ((own_p i) < 0 ∨ cl7.slots.size ≤ ((own_p i)).toNatClampNeg) := inb_of Sz7 ⟨own_p0 (own_lt8 hi hn), own_plt hi hn⟩
      have hat8 : cl7.slots[((own_p i)).toNatClampNeg]? = some (.long (own_K arr i)) := Has.at Hh7 hin8 (own_ldK arr (own_lt8 hi hn))
      obtain ⟨_, _, ⟨T9, Lq9, kq9, nq9⟩, -, X9, ⟨Lc9, hQ9, lq9, yq9, zq9⟩, st9⟩ := Jvm.LawKit.callS X6 hx (y := (⟨"java/lang/Math", "multiplyExact", "(JJ)J"⟩ : MethodName)) hown (mvT hZ (hw _ (own_w 50 rfl))) (mvT hZ (hw _ (own_w 51 rfl))) (mvT hZ (hw _ (own_w 52 rfl))) (mvT hZ (hw _ (own_w 53 rfl))) (by decide) (backOf (W := 0) (rmx l Z a0 hw [] (own_K arr i) q2  h n0 Z0 (hbK i hi hc40).1 hb2) hZ (hw _ (own_w 53 rfl)) (hw _ (own_w 52 rfl)) (Nat.le_trans (by decide) hRf) (Nat.le_trans (by decide) hRl)) (g := (mkF m 51 #[.val (.ref a1), .val (.long q2), .second, .val (.long q3), .second, .val (.ref cp), .val (.int (own_p i)), s7, s8] [(.long q2), (.long (own_K arr i))])) rfl (by rw [hml]; rfl) (argsL := [(.long (own_K arr i)), (.long q2)]) (rest := []) (lenOf pd_9 rfl) rfl (by show 2 * 0 + _ ≤ _; exact Nat.le_of_eq rfl) (hb hby d9_51) (fun _ _ => ⟨rfl, e6, hRc, hRs⟩)
      dsimp only [Pt.U, Pt.locs, Pt.cells, Pt.slots] at X9 lq9 yq9 zq9 st9 hQ9
      subst lq9 yq9 zq9
      obtain ⟨r9, hr9, rfl, N9q, e9⟩ := hQ9
      have N9 := Fr.app N0 N9q
      subst hr9
      have hF : ¬ own_K arr i * q2 = own_FREE := own_mulF (hbK i hi hc40).1 hb2
      have hk : ¬ (own_K arr i * q2) = (-9223372036854775808 : Int64) := hF
      obtain ⟨_, _, ⟨T10, Lq10, kq10, nq10⟩, -, X10, ⟨Lc10, hQ10, lq10, yq10, zq10⟩, st10⟩ := Jvm.LawKit.callS X9 hx (y := (⟨"com/example/pricewright/pricewright/core/LongSumTable", "held", "(J)J"⟩ : MethodName)) hown (mvT hZ (hw _ (own_w 32 rfl))) (mvT hZ (hw _ (own_w 33 rfl))) (mvT hZ (hw _ (own_w 2 rfl))) (mvT hZ (hw _ (own_w 34 rfl))) (by decide) (backOf (W := 0) (rmH l Z a0 hw [] (own_K arr i * q2)  h n0 Z0 hk) hZ (hw _ (own_w 34 rfl)) (hw _ (own_w 2 rfl)) (Nat.le_trans (by decide) hRf) (Nat.le_trans (by decide) hRl)) (g := (mkF m 54 #[.val (.ref a1), .val (.long q2), .second, .val (.long q3), .second, .val (.ref cp), .val (.int (own_p i)), s7, s8] [(.long (own_K arr i * q2))])) rfl (by rw [hml]; rfl) (argsL := [(.long (own_K arr i * q2))]) (rest := []) (lenOf pd_4 rfl) rfl (by show 2 * 0 + _ ≤ _; exact Nat.le_of_eq rfl) (hb hby d9_54) (fun _ _ => ⟨rfl, e9, hRc, hRs⟩)
      dsimp only [Pt.U, Pt.locs, Pt.cells, Pt.slots] at X10 lq10 yq10 zq10 st10 hQ10
      subst lq10 yq10 zq10
      obtain ⟨r10, hr10, rfl, N10q, e10⟩ := hQ10
      have N10 := Fr.app N9 N10q
      have hs10 := hr10.symm
      subst hs10
      obtain ⟨T11, X11, e11, st11⟩ := getF X10 hx hZ hown (host := "") (Or.inl (hw _ (own_w 13 rfl))) Via.refl e10 FS (g := (mkF m 64 #[.val (.ref a1), .val (.long q2), .second, .val (.long q3), .second, .val (.ref cp), .val (.int (own_p i)), .val (.long (own_K arr i * q2)), .second] [(.ref a1), (.long (own_K arr i * q2)), (.ref cp)])) rfl rfl (hb hby d9_64)
      obtain ⟨cl12, Ar12, qk12, Sz12, Nn12, Hh12, Gg12⟩ := id (AV)
      have hin13 : ¬ (((own_p i) + (1 : Int32)) < 0 ∨ cl12.slots.size ≤ (((own_p i) + (1 : Int32))).toNatClampNeg) := inb_of Sz12 ⟨own_q0 (own_lt8 hi hn), own_qlt hi hn⟩
      have hat13 : cl12.slots[(((own_p i) + (1 : Int32))).toNatClampNeg]? = some (.long (own_W arr i)) := Has.at Hh12 hin13 (own_ldW arr (own_lt8 hi hn))
      obtain ⟨_, _, ⟨T14, Lq14, kq14, nq14⟩, -, X14, ⟨Lc14, hQ14, lq14, yq14, zq14⟩, st14⟩ := Jvm.LawKit.callS X11 hx (y := (⟨"java/lang/Math", "multiplyExact", "(JJ)J"⟩ : MethodName)) hown (mvT hZ (hw _ (own_w 50 rfl))) (mvT hZ (hw _ (own_w 51 rfl))) (mvT hZ (hw _ (own_w 52 rfl))) (mvT hZ (hw _ (own_w 53 rfl))) (by decide) (backOf (W := 3) (rmx l Z a0 hw [] (own_W arr i) q3  h n0 Z0 (hbK i hi hc40).2 hb3) hZ (hw _ (own_w 53 rfl)) (hw _ (own_w 52 rfl)) (Nat.le_trans (by decide) hRf) (Nat.le_trans (by decide) hRl)) (g := (mkF m 73 #[.val (.ref a1), .val (.long q2), .second, .val (.long q3), .second, .val (.ref cp), .val (.int (own_p i)), .val (.long (own_K arr i * q2)), .second] [(.long q3), (.long (own_W arr i)), (.long (own_K arr i * q2)), (.ref cp)])) rfl (by rw [hml]; rfl) (argsL := [(.long (own_W arr i)), (.long q3)]) (rest := [(.long (own_K arr i * q2)), (.ref cp)]) (lenOf pd_9 rfl) rfl (by show 2 * 0 + _ ≤ _; exact Nat.le_of_eq rfl) (hb hby d9_73) (fun _ _ => ⟨rfl, e11, hRc, hRs⟩)
      dsimp only [Pt.U, Pt.locs, Pt.cells, Pt.slots] at X14 lq14 yq14 zq14 st14 hQ14
      subst lq14 yq14 zq14
      obtain ⟨r14, hr14, rfl, N14q, e14⟩ := hQ14
      have N14 := Fr.app N10 N14q
      subst hr14
      have hfr : ∃ j, j < n ∧ own_K ar2 j = own_FREE := own_cnt_free (by obtain ⟨_, _, r0, _⟩ := RR; rw [r0.2.2.2]; have := own_cnt_mono (own_K arr) (show i + 1 ≤ n by omega); have w2 : own_cnt (own_K arr) (i + 1) = own_cnt (own_K arr) i + 1 := own_cntP hc40; have := own_cnt_le (own_K arr) n; omega)
      obtain ⟨cq15, qq15, qq15'⟩ := CE.cell
      obtain ⟨_, _, ⟨T15, Lq15, kq15, nq15⟩, -, X15, ⟨Lc15, hQ15, lq15, yq15, zq15⟩, st15⟩ := X14.privateBack hx (y := (⟨"com/example/pricewright/pricewright/core/LongSumTable", "put", "(JJ)V"⟩ : MethodName)) hown (mvT hZ (hw _ (own_w 57 rfl))) (mvT hZ (hw _ (own_w 58 rfl))) (own_selpriv (mvT hZ (hw _ (own_w 1 rfl))) (Cond.privateMethod_at (mvP hZ (hw _ (own_w 59 rfl)) (args := #[]))) (mvT hZ (hw _ (own_w 58 rfl))) (by decide)) (Cond.privateMethod_at (mvP hZ (hw _ (own_w 59 rfl)) (args := #[]))) (mvT hZ (hw _ (own_w 60 rfl))) (by decide) (backOf (W := 0) (rmP l Z a0 hw [] cp (own_K arr i * q2) (own_W arr i * q3) ca ck (ar2) n sh h n0 Z0 hns CE CS CH CA hfr hl2 nc gc) hZ (hw _ (own_w 60 rfl)) (hw _ (own_w 2 rfl)) (Nat.le_trans (by decide) hRf) (Nat.le_trans (by decide) hRl)) (g := (mkF m 76 #[.val (.ref a1), .val (.long q2), .second, .val (.long q3), .second, .val (.ref cp), .val (.int (own_p i)), .val (.long (own_K arr i * q2)), .second] [(.long (own_W arr i * q3)), (.long (own_K arr i * q2)), (.ref cp)])) rfl (by rw [hml]; rfl) (Steps.refl _) (a := cp) (by rw [e14]; exact qq15) qq15' (argsL := [(.long (own_K arr i * q2)), (.long (own_W arr i * q3))]) (rest := []) (lenOf pd_3 rfl) rfl (by show 2 * 0 + _ ≤ _; exact Nat.le_of_eq rfl) (hb hby d9_76) (fun _ _ => ⟨rfl, e14, hRc, hRs⟩)
      dsimp only [Pt.U, Pt.locs, Pt.cells, Pt.slots] at X15 lq15 yq15 zq15 st15 hQ15
      subst lq15 yq15 zq15
      obtain ⟨rfl, N15q, KC15, u15⟩ := hQ15
      have N15 := Fr.app N14 N15q
      have Z15 : n0 ≤ T15.heap.size := Nat.le_trans Z0 KC15.1
      obtain ⟨i15, hi15, P15, AV15⟩ := u15
      have hl2' : (((ar2.set (2 * i15) (own_K arr i * q2)).set (2 * i15 + 1) (own_W arr i * q3))).length = 2 * n := by rw [List.length_set, List.length_set]; exact hl2
      have RR' := own_psP hc40 hi hF hinj hi15 P15 RR
      rw [← own_Kins hl2 hi15 (v := own_W arr i * q3), ← own_Wins hl2 hi15 (k := own_K arr i * q2)] at RR'
      have f16 := (FS.keep KC15 (ninS n1 nin0))
      have f17 := (AV.keep KC15 (ninS na nin0))
      have f18 := (CE.keep KC15)
      have f19 := (CS.keep KC15 (ninS nc nin0))
      have f20 := (CH.keep KC15 (ninS nc nin0))
      obtain ⟨T', h', L', ar', s7', s8', X', e', N', Z', K', hl', A', R', st'⟩ := ih (i + 1) (by omega) T15 _ _ _ _ _ X15 rfl N15 Z15 f16 f17 f18 f19 f20 AV15 hl2' (Or.inr ⟨_, rfl, rfl⟩) RR' 
      refine ⟨T', h', L', ar', s7', s8', X', e', N', Z', KC15.trans K' (allS (Or.inl (own_w 0 rfl)) all0), hl', A', R', fun target kt => ?_⟩
      have kq := st' target kt
      rw [← own_pp (own_lt8 hi hn)] at kq
      show Steps p.tables e below (T0.setTop (mkF m 19 #[.val (.ref a1), .val (.long q2), .second, .val (.long q3), .second, .val (.ref cp), .val (.int (own_p i)), s7, s8] [])) _
      refine XS.iload X0.here hx rfl (hb hby d9_19) rfl ?_
      refine XS.aloadN X0.here hx rfl (hb hby d9_21) rfl rfl ?_
      refine st1 _ ?_
      refine X1.arraylength hx (by rw [e1]; exact Ar2.1) (State.isArrayOf_alike hZ.alike Ar2.2.1) (g := (mkF m 25 #[.val (.ref a1), .val (.long q2), .second, .val (.long q3), .second, .val (.ref cp), .val (.int (own_p i)), s7, s8] [(.ref a), (.int (own_p i))])) rfl rfl (hb hby d9_25) _ ?_
      rw [len_of Sz2 Nn2]
      show Steps p.tables e below (T1.setTop (mkF m 26 #[.val (.ref a1), .val (.long q2), .second, .val (.long q3), .second, .val (.ref cp), .val (.int (own_p i)), s7, s8] [(.int (Int32.ofNat (2 * n))), (.int (own_p i))])) _
      refine XS.icmpNo X1.here hx rfl (hb hby d9_26) rfl (tlt (own_plt hi hn)).2.1 ?_
      refine XS.aloadN X1.here hx rfl (hb hby d9_29) rfl rfl ?_
      refine st3 _ ?_
      refine XS.iload X3.here hx rfl (hb hby d9_33) rfl ?_
      refine X3.laload hx (j := (own_p i)) (v := (.long (own_K arr i))) (by rw [e3]; exact Ar4.1) (State.isArrayOf_alike hZ.alike Ar4.2.1) Ar4.2.2 hin5 hat5 (g := (mkF m 35 #[.val (.ref a1), .val (.long q2), .second, .val (.long q3), .second, .val (.ref cp), .val (.int (own_p i)), s7, s8] [(.int (own_p i)), (.ref a)])) rfl rfl (hb hby d9_35) _ ?_
      refine X3.ldc2Long hx hown (mvT hZ (hw _ (own_w 15 rfl))) (g := (mkF m 36 #[.val (.ref a1), .val (.long q2), .second, .val (.long q3), .second, .val (.ref cp), .val (.int (own_p i)), s7, s8] [(.long (own_K arr i))])) rfl (hb hby d9_36) _ ?_
      refine XS.lcmp X3.here hx rfl (hb hby d9_39) rfl ?_
      refine XS.ifNo X3.here hx rfl (hb hby d9_40) rfl ((if0 _ _).trans (feq (own_lcne hc40)).1) ?_
      refine XS.aloadN X3.here hx rfl (hb hby d9_43) rfl rfl ?_
      refine st6 _ ?_
      refine XS.iload X6.here hx rfl (hb hby d9_47) rfl ?_
      refine X6.laload hx (j := (own_p i)) (v := (.long (own_K arr i))) (by rw [e6]; exact Ar7.1) (State.isArrayOf_alike hZ.alike Ar7.2.1) Ar7.2.2 hin8 hat8 (g := (mkF m 49 #[.val (.ref a1), .val (.long q2), .second, .val (.long q3), .second, .val (.ref cp), .val (.int (own_p i)), s7, s8] [(.int (own_p i)), (.ref a)])) rfl rfl (hb hby d9_49) _ ?_
      refine XS.lloadN X6.here hx rfl (hb hby d9_50) rfl ?_
      refine st9 _ ?_
      refine st10 _ ?_
      refine XS.lstore X10.here hx rfl (hb hby d9_57) rfl (l' := #[.val (.ref a1), .val (.long q2), .second, .val (.long q3), .second, .val (.ref cp), .val (.int (own_p i)), .val (.long (own_K arr i * q2)), .second]) (own_st7 LS) ?_
      refine XS.aload X10.here hx rfl (hb hby d9_59) rfl rfl ?_
      refine XS.lload X10.here hx rfl (hb hby d9_61) rfl ?_
      refine XS.aloadN X10.here hx rfl (hb hby d9_63) rfl rfl ?_
      refine st11 _ ?_
      refine XS.iload X11.here hx rfl (hb hby d9_67) rfl ?_
      refine XS.iconst X11.here hx rfl (hb hby d9_69) ?_
      refine XS.iadd X11.here hx rfl (hb hby d9_70) rfl ?_
      refine X11.laload hx (j := ((own_p i) + (1 : Int32))) (v := (.long (own_W arr i))) (by rw [e11]; exact Ar12.1) (State.isArrayOf_alike hZ.alike Ar12.2.1) Ar12.2.2 hin13 hat13 (g := (mkF m 71 #[.val (.ref a1), .val (.long q2), .second, .val (.long q3), .second, .val (.ref cp), .val (.int (own_p i)), .val (.long (own_K arr i * q2)), .second] [(.int ((own_p i) + (1 : Int32))), (.ref a), (.long (own_K arr i * q2)), (.ref cp)])) rfl rfl (hb hby d9_71) _ ?_
      refine XS.lloadN X11.here hx rfl (hb hby d9_72) rfl ?_
      refine st14 _ ?_
      refine st15.trans ?_
      refine XS.iinc X15.here hx rfl (hb hby d9_79) rfl (l' := #[.val (.ref a1), .val (.long q2), .second, .val (.long q3), .second, .val (.ref cp), .val (.int ((own_p i) + (2 : Int32))), .val (.long (own_K arr i * q2)), .second]) rfl ?_
      refine XS.goto X15.here hx rfl (pc0 := 82) (pc' := 19) rfl (hb hby d9_82) (by decide) (by decide) ?_
      exact kq
theorem own_psD {K W : Nat → Int64} {n : Nat} {hs : Int64 → Nat} {D : Int64 → Prop} {m : Int64 → Int64} {sz : Nat} {f : Int64} (R : own_Rep K W n hs D m sz) (x : Int64) : own_PS K f n x ↔ ∃ y, D y ∧ y * f = x :=
  ⟨fun ⟨j, a, b, c⟩ => ⟨K j, (R.1 j a b).2.1, c⟩, fun ⟨y, a, b⟩ => by obtain ⟨q, i, hi, e⟩ := R.2.1 y a; exact ⟨i, hi, e ▸ q, by rw [e]; exact b⟩⟩
theorem own_psM {K W : Nat → Int64} {n : Nat} {hs : Int64 → Nat} {D : Int64 → Prop} {m M2 : Int64 → Int64} {sz : Nat} {f g y : Int64} (R : own_Rep K W n hs D m sz) (h : ∀ j, j < n → K j ≠ own_FREE → M2 (K j * f) = W j * g) (a : D y) : M2 (y * f) = m y * g := by
  obtain ⟨q, i, hi, e⟩ := R.2.1 y a
  have k : K i ≠ own_FREE := by rw [e]; exact q
  have t := h i hi k
  rw [(R.1 i hi k).2.2, e] at t; exact t
theorem own_sh61 {sh : Int32} (h : (8 = 4 ∧ sh = 62) ∨ (8 = 8 ∧ sh = 61)) : sh = 61 := by
  rcases h with ⟨h, -⟩ | ⟨-, h⟩
  · omega
  · exact h

theorem d9_0 : decode prog_19_method_6_code 0 = .ok (.new 3, 3) := by decide +kernel
theorem d9_3 : decode prog_19_method_6_code 3 = .ok (.dup, 1) := by decide +kernel
theorem d9_4 : decode prog_19_method_6_code 4 = .ok (.aload_n 0, 1) := by decide +kernel
theorem d9_5 : decode prog_19_method_6_code 5 = .ok (.getfield 14, 3) := by decide +kernel
theorem d9_8 : decode prog_19_method_6_code 8 = .ok (.arraylength, 1) := by decide +kernel
theorem d9_9 : decode prog_19_method_6_code 9 = .ok (.iconst 2, 1) := by decide +kernel
theorem d9_10 : decode prog_19_method_6_code 10 = .ok (.idiv, 1) := by decide +kernel
theorem d9_11 : decode prog_19_method_6_code 11 = .ok (.invokespecial 5, 3) := by decide +kernel
theorem d9_14 : decode prog_19_method_6_code 14 = .ok (.astore 5, 2) := by decide +kernel
theorem d9_16 : decode prog_19_method_6_code 16 = .ok (.iconst 0, 1) := by decide +kernel
theorem d9_17 : decode prog_19_method_6_code 17 = .ok (.istore 6, 2) := by decide +kernel
theorem d9_85 : decode prog_19_method_6_code 85 = .ok (.aload 5, 2) := by decide +kernel
theorem d9_87 : decode prog_19_method_6_code 87 = .ok (.aload_n 0, 1) := by decide +kernel
theorem d9_88 : decode prog_19_method_6_code 88 = .ok (.getfield 44, 3) := by decide +kernel
theorem d9_91 : decode prog_19_method_6_code 91 = .ok (.putfield 44, 3) := by decide +kernel
theorem d9_94 : decode prog_19_method_6_code 94 = .ok (.aload 5, 2) := by decide +kernel
theorem d9_96 : decode prog_19_method_6_code 96 = .ok (.areturn, 1) := by decide +kernel
theorem pn_9 : plainName "com/example/pricewright/pricewright/core/LongSumTable" = true := by first | (simp [plainName, overriddenIn]; done) | decide +kernel
theorem ef_rmC4 (m : MethodId) (a1 : Addr) (q2 : Int64) (q3 : Int64) : entryFrame m #[(.ref a1), (.long q2), (.long q3)] 9 = mkF m 0 #[.val (.ref a1), .val (.long q2), .second, .val (.long q3), .second, .unset, .unset, .unset, .unset] [] := by first | (simp [entryFrame, mkF, argsToLocals, Value.category]; done) | rfl
def QrmC4 (Z : State) (a1 : Addr) (q2 : Int64) (q3 : Int64) (a : Addr) (k : ClassId) (arr : List Int64) (D : Int64 → Prop) (mm : Int64 → Int64) (sz : Nat) (h0 : Heap) (n0 : Nat) (v : Option Value) (h : Heap) (L : List Loc) : Prop := ∃ (cp : Addr), v = some (.ref cp) ∧ Fr n0 L ∧ n0 ≤ h.size ∧ Keep h0 h [] ∧ n0 ≤ cp ∧ h0.size ≤ cp ∧ ∃ (D2 : Int64 → Prop) (M2 : Int64 → Int64), own_Tab Z h n0 cp 4 D2 M2 sz .null ∧ (∀ x, D2 x ↔ ∃ y, D y ∧ y * q2 = x) ∧ (∀ y, D y → M2 (y * q2) = mm y * q3)
set_option maxRecDepth 65536 in
set_option maxHeartbeats 40000000 in
theorem rmC4 (l : Launch) (Z : State) (a0 : Array Value) (hw : ∀ d ∈ tables_1, d.before a0 Z = true) (ws : List Jvm.Cond) (a1 : Addr) (q2 : Int64) (q3 : Int64) (a : Addr) (k : ClassId) (arr : List Int64) (D : Int64 → Prop) (mm : Int64 → Int64) (sz : Nat) (h0 : Heap) (n0 : Nat) (Z0 : n0 ≤ h0.size) (E : Exa Z h0 a1 "com/example/pricewright/pricewright/core/LongSumTable") (FS : Fld Z h0 a1 "com/example/pricewright/pricewright/core/LongSumTable" "slots" "[J" (.ref a)) (FZ : Fld Z h0 a1 "com/example/pricewright/pricewright/core/LongSumTable" "size" "I" (.int (Int32.ofNat sz))) (AV : Arv Z h0 a k .long (8 : Int32) (arr.map Value.long) (.long (0 : Int64))) (hne : a1 ≠ a) (Rp : own_Rep (own_K arr) (own_W arr) 4 (own_hs 4) D mm sz) (hb2 : own_B q2) (hb3 : own_B q3) (hbD : ∀ x, D x → own_B x ∧ own_B (mm x)) (hiD : ∀ x y, D x → D y → x * q2 = y * q2 → x = y) :
    MetFree l (⟨"com/example/pricewright/pricewright/core/LongSumTable", "scaled", "(JJ)Lcom/example/pricewright/pricewright/core/LongSumTable;"⟩ : MethodName) (head1 (Jvm.Cond.code (⟨"com/example/pricewright/pricewright/core/LongSumTable", "scaled", "(JJ)Lcom/example/pricewright/pricewright/core/LongSumTable;"⟩ : MethodName) prog_19_method_6_code 9 (some (.object "com/example/pricewright/pricewright/core/LongSumTable")) :: ws) ({ frames := 3, cells := 2, slots := 12, locals := 64 } : Room)) (fun a U => a = #[(.ref a1), (.long q2), (.long q3)] ∧ Z.Warmed39 U.vm ∧ U.heap = h0) (fun _ _ _ _ _ => True) (fun _ U o U' => ∃ v L, o = .returned v ∧ QrmC4 Z a1 q2 q3 a k arr D mm sz h0 n0 v U'.heap L ∧ FrameEnd U o U' L ({ frames := 3, cells := 2, slots := 12, locals := 64 } : Room).cells ({ frames := 3, cells := 2, slots := 12, locals := 64 } : Room).slots) := by
  refine MetFree.of_bodySF (plainFor_of_name pn_9) hisR ?_
  intro p e s m args below meth c s₁ Bd hml0 hP hK
  obtain ⟨rfl, hZ, hh⟩ := hP
  have hx := Bd.exec
  have hby := Bd.bytes
  have hml : c.maxLocals = 9 := hml0
  have hown : s.vm.findClass "com/example/pricewright/pricewright/core/LongSumTable" = some m.cls := findClass_of_methodNamed Bd.named
  have hnm := (name_of_methodNamed Bd.named Bd.method).1
  have X0 : Stand p l e ({ frames := 3, cells := 2, slots := 12, locals := 64 } : Room) s m #[(.ref a1), (.long q2), (.long q3)] below meth c s₁ [] 0 0 := Stand.of_body Bd
  have e0 : s₁.heap = h0 := by rw [← hh, Bd.state]; rfl
  have N0 := Fr.nil n0
  have pre0 : ∀ t, Steps p.tables e below (s₁.setTop (mkF m 0 #[.val (.ref a1), .val (.long q2), .second, .val (.long q3), .second, .unset, .unset, .unset, .unset] [])) t → Steps p.tables e below (s₁.setTop (entryFrame m #[(.ref a1), (.long q2), (.long q3)] 9)) t := fun t k => castTop (ef_rmC4 m a1 q2 q3) k
  obtain ⟨T1, h1, X1, e1, E1, A1, D1, -, st1⟩ := newO X0 hx hZ hown (hw _ (own_w 49 rfl)) (hw _ (own_w 1 rfl)) (hw _ (own_w 2 rfl)) e0 (g := (mkF m 0 #[.val (.ref a1), .val (.long q2), .second, .val (.long q3), .second, .unset, .unset, .unset, .unset] [])) rfl (hb hby d9_0) (by decide) (by decide)
  obtain ⟨b1o, g1⟩ : ∃ z, z = h0.size := ⟨_, rfl⟩
  have b1 : n0 ≤ b1o := Nat.le_trans Z0 (Nat.le_of_eq g1.symm)
  have bk1 : h0.size ≤ b1o := Nat.le_trans (Keep.refl h0 []).1 (Nat.le_of_eq g1.symm)
  have ne2 : a1 ≠ b1o := Nat.ne_of_lt (Nat.lt_of_lt_of_le E.lt (Nat.le_of_eq g1.symm))
  have ne3 : a ≠ b1o := Nat.ne_of_lt (Nat.lt_of_lt_of_le AV.lt (Nat.le_of_eq g1.symm))
  rw [← g1] at A1 D1 st1
  have Z1 : n0 ≤ h1.size := Nat.le_trans Z0 E1.1
  have K1 : Keep h0 h1 [] := (Keep.refl h0 []).ext E1
  have F1_14 : Fld Z h1 b1o "com/example/pricewright/pricewright/core/LongSumTable" "slots" "[J" .null := D1 (Or.inl (hw _ (own_w 14 rfl))) (ty := (.array .long)) (by decide)
  have F1_26 : Fld Z h1 b1o "com/example/pricewright/pricewright/core/LongSumTable" "shift" "I" (.int (0 : Int32)) := D1 (Or.inl (hw _ (own_w 26 rfl))) (ty := .int) (by decide)
  have F1_41 : Fld Z h1 b1o "com/example/pricewright/pricewright/core/LongSumTable" "sorted" "[J" .null := D1 (Or.inl (hw _ (own_w 41 rfl))) (ty := (.array .long)) (by decide)
  have F1_43 : Fld Z h1 b1o "com/example/pricewright/pricewright/core/LongSumTable" "size" "I" (.int (0 : Int32)) := D1 (Or.inl (hw _ (own_w 43 rfl))) (ty := .int) (by decide)
  have f4 := (FS.ext E1)
  obtain ⟨T5, X5, e5, st5⟩ := getF X1 hx hZ hown (host := "") (Or.inl (hw _ (own_w 13 rfl))) Via.refl e1 f4 (g := (mkF m 5 #[.val (.ref a1), .val (.long q2), .second, .val (.long q3), .second, .unset, .unset, .unset, .unset] [(.ref a1), (.ref b1o), (.ref b1o)])) rfl rfl (hb hby d9_5)
  have f6 := (AV.ext E1)
  obtain ⟨cl7, Ar7, qk7, Sz7, Nn7, Hh7, Gg7⟩ := id (f6)
  have f9 := (E.ext E1)
  have f10 := (FZ.ext E1)
  obtain ⟨_, _, ⟨T8, Lq8, kq8, nq8⟩, -, X8, ⟨Lc8, hQ8, lq8, yq8, zq8⟩, st8⟩ := X5.specialBack hx (y := (⟨"com/example/pricewright/pricewright/core/LongSumTable", "<init>", "(I)V"⟩ : MethodName)) rfl hown (mvT hZ (hw _ (own_w 6 rfl))) (mvT hZ (hw _ (own_w 7 rfl))) (mvT hZ (hw _ (own_w 8 rfl))) (by decide) (backOf (W := 1) (rmI4 l Z a0 hw [] b1o  h1 n0 Z1 A1 F1_14 F1_26 F1_43 F1_41 b1) hZ (hw _ (own_w 8 rfl)) (hw _ (own_w 2 rfl)) (by decide) (by decide)) (g := (mkF m 11 #[.val (.ref a1), .val (.long q2), .second, .val (.long q3), .second, .unset, .unset, .unset, .unset] [(.int (4 : Int32)), (.ref b1o), (.ref b1o)])) rfl (by rw [hml]; rfl) (Steps.refl _) (a := b1o) (argsL := [(.int (4 : Int32))]) (rest := [(.ref b1o)]) (lenOf pd_2 rfl) rfl (by show 2 * 0 + _ ≤ _; exact Nat.le_of_eq rfl) (hb hby d9_11) (fun _ _ => ⟨rfl, e5, (by decide : 1 + 1 ≤ _), (by decide : 4 + 8 ≤ _)⟩)
  dsimp only [Pt.U, Pt.locs, Pt.cells, Pt.slots] at X8 lq8 yq8 zq8 st8 hQ8
  subst lq8 yq8 zq8
  obtain ⟨rfl, N8q, KC8, u8⟩ := hQ8
  have N8 := Fr.app N0 N8q
  have Z8 : n0 ≤ T8.heap.size := Nat.le_trans Z1 KC8.1
  have K8 : Keep h0 T8.heap [] := K1.trans KC8 (allS (Or.inr bk1) all0)
  obtain ⟨sa8, sk8, ga8, gk8, EI8, FS8, FH8, FZ8, FQ8, AV8⟩ := id u8
  have net8 : b1o ≠ sa8 := ne_arrV (EI8) (hw _ (own_w 1 rfl)) AV8
  have ne11 : a1 ≠ sa8 := Nat.ne_of_lt (Nat.lt_of_lt_of_le f10.lt gk8)
  have ne12 : a ≠ sa8 := Nat.ne_of_lt (Nat.lt_of_lt_of_le f6.lt gk8)
  have RR13 : ∃ D2 M2, own_Rep (own_K own_new4) (own_W own_new4) 4 (own_hs 4) D2 M2 (own_cnt (own_K arr) 0) ∧ (∀ x, D2 x ↔ own_PS (own_K arr) q2 0 x) ∧ (∀ j, j < 0 → own_K arr j ≠ own_FREE → M2 (own_K arr j * q2) = own_W arr j * q3) := ⟨_, _, own_rep_empty own_new4K, fun x => ⟨fun w => w.elim, fun ⟨j, w, _⟩ => absurd w (Nat.not_lt_zero j)⟩, fun j w => absurd w (Nat.not_lt_zero j)⟩
  have f14 := (f4.keep KC8 (ninS ne2 nin0))
  have f15 := (f6.keep KC8 (ninS ne3 nin0))
  obtain ⟨T13, h13, L13, ar13, s713, s813, X13, e13, N13, Z13, KT13, hl13, CA13, ⟨D13, M13, Rq13, hD13, hM13⟩, st13⟩ := own_sc (n := 4) (sh := (62 : Int32)) (by decide) (by decide) (by decide) (by decide) hx hZ hw hby hml hown (Or.inl ⟨rfl, rfl⟩) (Or.inl rfl) hb2 hb3 (fun i hi w => ⟨(hbD _ (Rp.1 i hi w).2.1).1, by rw [(Rp.1 i hi w).2.2]; exact (hbD _ (Rp.1 i hi w).2.1).2⟩) (fun a b ha hb na nb w => own_rep_inj Rp ha hb (hiD _ _ (Rp.1 a ha na).2.1 (Rp.1 b hb nb).2.1 w) na) ne12 ne11 net8 ga8 4 0 rfl _ _ _ own_new4 .unset .unset X8 rfl N8 Z8 f14 f15 EI8 FS8 FH8 AV8 (rfl : own_new4.length = 2 * 4) (Or.inl ⟨rfl, rfl⟩) RR13
  have K13 : Keep h0 h13 [] := K8.trans KT13 (allS (Or.inr (Nat.le_trans K1.1 gk8)) all0)
  have f16 := ((f10.keep KC8 (ninS ne2 nin0)).keep KT13 (ninS ne11 nin0))
  obtain ⟨T17, X17, e17, st17⟩ := getF X13 hx hZ hown (host := "") (Or.inl (hw _ (own_w 42 rfl))) Via.refl e13 f16 (g := (mkF m 88 #[.val (.ref a1), .val (.long q2), .second, .val (.long q3), .second, .val (.ref b1o), .val (.int (own_p 4)), s713, s813] [(.ref a1), (.ref b1o)])) rfl rfl (hb hby d9_88)
  have f18 := (EI8.keep KT13)
  have f19 := (FZ8.keep KT13 (ninS net8 nin0))
  obtain ⟨T20, h20, X20, e20, W20, st20⟩ := putF X17 hx hZ hown (host := "") (Or.inl (hw _ (own_w 42 rfl))) Via.refl e17 f19 f18 (Or.inl (hw _ (own_w 43 rfl))) (hw _ (own_w 1 rfl)) (ty := .int) (by decide) rfl rfl (g := (mkF m 91 #[.val (.ref a1), .val (.long q2), .second, .val (.long q3), .second, .val (.ref b1o), .val (.int (own_p 4)), s713, s813] [(.int (Int32.ofNat sz)), (.ref b1o)])) rfl rfl (hb hby d9_91)
  have N20 := Fr.snoc X20 N13 b1
  have Z20 : n0 ≤ h20.size := by rw [W20.size]; exact Z13
  have K20 : Keep h0 h20 [] := K13.wr W20 (Or.inr bk1)
  have Fw20 := f19.same W20
  obtain ⟨fs, hr, hrun, hended, hW, hsame⟩ := X20.leave (v := some (.ref b1o)) (fun h => by rw [Bd.returns] at h; cases h) (BodyLoose.notSynchronized Bd)
  refine ⟨_, _, pre0 _ ?_, hrun, hended, _, _, rfl, ?_, ⟨_, rfl⟩, hW, hsame.mono (by decide) (by decide)⟩
  · show Steps p.tables e below (s₁.setTop (mkF m 0 #[.val (.ref a1), .val (.long q2), .second, .val (.long q3), .second, .unset, .unset, .unset, .unset] [])) _
    refine st1 _ ?_
    refine XS.dup X1.here hx rfl (hb hby d9_3) rfl rfl ?_
    refine XS.aloadN X1.here hx rfl (hb hby d9_4) rfl rfl ?_
    refine st5 _ ?_
    refine X5.arraylength hx (by rw [e5]; exact Ar7.1) (State.isArrayOf_alike hZ.alike Ar7.2.1) (g := (mkF m 8 #[.val (.ref a1), .val (.long q2), .second, .val (.long q3), .second, .unset, .unset, .unset, .unset] [(.ref a), (.ref b1o), (.ref b1o)])) rfl rfl (hb hby d9_8) _ ?_
    rw [len_of Sz7 Nn7]
    show Steps p.tables e below (T5.setTop (mkF m 9 #[.val (.ref a1), .val (.long q2), .second, .val (.long q3), .second, .unset, .unset, .unset, .unset] [(.int (8 : Int32)), (.ref b1o), (.ref b1o)])) _
    refine XS.iconst X5.here hx rfl (hb hby d9_9) ?_
    refine XS.idiv X5.here hx rfl (hb hby d9_10) rfl (by decide) ?_
    refine st8.trans ?_
    refine XS.astore X8.here hx rfl (hb hby d9_14) rfl rfl (l' := #[.val (.ref a1), .val (.long q2), .second, .val (.long q3), .second, .val (.ref b1o), .unset, .unset, .unset]) rfl ?_
    refine XS.iconst X8.here hx rfl (hb hby d9_16) ?_
    refine XS.istore X8.here hx rfl (hb hby d9_17) rfl (l' := #[.val (.ref a1), .val (.long q2), .second, .val (.long q3), .second, .val (.ref b1o), .val (.int (0 : Int32)), .unset, .unset]) rfl ?_
    refine st13 _ ?_
    refine XS.aload X13.here hx rfl (hb hby d9_85) rfl rfl ?_
    refine XS.aloadN X13.here hx rfl (hb hby d9_87) rfl rfl ?_
    refine st17 _ ?_
    refine st20 _ ?_
    refine XS.aload X20.here hx rfl (hb hby d9_94) rfl rfl ?_
    show Steps p.tables e below (T20.setTop (mkF m 96 #[.val (.ref a1), .val (.long q2), .second, .val (.long q3), .second, .val (.ref b1o), .val (.int (own_p 4)), s713, s813] [(.ref b1o)])) _
    exact X20.areturnOut hx rfl Bd.returns rfl (hb hby d9_96) hr
  · show QrmC4 Z a1 q2 q3 a k arr D mm sz h0 n0 _ T20.heap _
    have f21 := (f18.wr W20)
    have f22 := ((FS8.keep KT13 (ninS net8 nin0)).other W20 (Or.inr (slot_ne (Or.inl (hw _ (own_w 14 rfl))) (Or.inl (hw _ (own_w 43 rfl))) (by decide) (t := (.array .long)) (t' := .int) (by decide) (by decide))))
    have f23 := ((FH8.keep KT13 (ninS net8 nin0)).other W20 (Or.inr (slot_ne (Or.inl (hw _ (own_w 26 rfl))) (Or.inl (hw _ (own_w 43 rfl))) (by decide) (t := .int) (t' := .int) (by decide) (by decide))))
    have f24 := ((FQ8.keep KT13 (ninS net8 nin0)).other W20 (Or.inr (slot_ne (Or.inl (hw _ (own_w 41 rfl))) (Or.inl (hw _ (own_w 43 rfl))) (by decide) (t := (.array .long)) (t' := .int) (by decide) (by decide))))
    have f25 := (CA13.other W20 (Ne.symm net8))
    rw [e20]
    exact ⟨b1o, rfl, N20, Z20, K20, b1, bk1, D13, M13, ⟨sa8, _, ar13, 62, Or.inl ⟨rfl, rfl⟩, ga8, f21, f22, f23, Fw20, f24, f25, hl13, by rw [← Rp.2.2.2]; exact Rq13⟩, fun x => (hD13 x).trans (own_psD Rp x), fun y w => own_psM Rp hM13 w⟩
theorem ef_rmC8 (m : MethodId) (a1 : Addr) (q2 : Int64) (q3 : Int64) : entryFrame m #[(.ref a1), (.long q2), (.long q3)] 9 = mkF m 0 #[.val (.ref a1), .val (.long q2), .second, .val (.long q3), .second, .unset, .unset, .unset, .unset] [] := by first | (simp [entryFrame, mkF, argsToLocals, Value.category]; done) | rfl
def QrmC8 (Z : State) (a1 : Addr) (q2 : Int64) (q3 : Int64) (a : Addr) (k : ClassId) (arr : List Int64) (D : Int64 → Prop) (mm : Int64 → Int64) (sz : Nat) (h0 : Heap) (n0 : Nat) (v : Option Value) (h : Heap) (L : List Loc) : Prop := ∃ (cp : Addr), v = some (.ref cp) ∧ Fr n0 L ∧ n0 ≤ h.size ∧ Keep h0 h [] ∧ n0 ≤ cp ∧ h0.size ≤ cp ∧ ∃ (D2 : Int64 → Prop) (M2 : Int64 → Int64), own_Tab Z h n0 cp 8 D2 M2 sz .null ∧ (∀ x, D2 x ↔ ∃ y, D y ∧ y * q2 = x) ∧ (∀ y, D y → M2 (y * q2) = mm y * q3)
set_option maxRecDepth 65536 in
set_option maxHeartbeats 40000000 in
theorem rmC8 (l : Launch) (Z : State) (a0 : Array Value) (hw : ∀ d ∈ tables_1, d.before a0 Z = true) (ws : List Jvm.Cond) (a1 : Addr) (q2 : Int64) (q3 : Int64) (a : Addr) (k : ClassId) (arr : List Int64) (D : Int64 → Prop) (mm : Int64 → Int64) (sz : Nat) (h0 : Heap) (n0 : Nat) (Z0 : n0 ≤ h0.size) (E : Exa Z h0 a1 "com/example/pricewright/pricewright/core/LongSumTable") (FS : Fld Z h0 a1 "com/example/pricewright/pricewright/core/LongSumTable" "slots" "[J" (.ref a)) (FZ : Fld Z h0 a1 "com/example/pricewright/pricewright/core/LongSumTable" "size" "I" (.int (Int32.ofNat sz))) (AV : Arv Z h0 a k .long (16 : Int32) (arr.map Value.long) (.long (0 : Int64))) (hne : a1 ≠ a) (Rp : own_Rep (own_K arr) (own_W arr) 8 (own_hs 8) D mm sz) (hb2 : own_B q2) (hb3 : own_B q3) (hbD : ∀ x, D x → own_B x ∧ own_B (mm x)) (hiD : ∀ x y, D x → D y → x * q2 = y * q2 → x = y) :
    MetFree l (⟨"com/example/pricewright/pricewright/core/LongSumTable", "scaled", "(JJ)Lcom/example/pricewright/pricewright/core/LongSumTable;"⟩ : MethodName) (head1 (Jvm.Cond.code (⟨"com/example/pricewright/pricewright/core/LongSumTable", "scaled", "(JJ)Lcom/example/pricewright/pricewright/core/LongSumTable;"⟩ : MethodName) prog_19_method_6_code 9 (some (.object "com/example/pricewright/pricewright/core/LongSumTable")) :: ws) ({ frames := 3, cells := 2, slots := 20, locals := 64 } : Room)) (fun a U => a = #[(.ref a1), (.long q2), (.long q3)] ∧ Z.Warmed39 U.vm ∧ U.heap = h0) (fun _ _ _ _ _ => True) (fun _ U o U' => ∃ v L, o = .returned v ∧ QrmC8 Z a1 q2 q3 a k arr D mm sz h0 n0 v U'.heap L ∧ FrameEnd U o U' L ({ frames := 3, cells := 2, slots := 20, locals := 64 } : Room).cells ({ frames := 3, cells := 2, slots := 20, locals := 64 } : Room).slots) := by
  refine MetFree.of_bodySF (plainFor_of_name pn_9) hisR ?_
  intro p e s m args below meth c s₁ Bd hml0 hP hK
  obtain ⟨rfl, hZ, hh⟩ := hP
  have hx := Bd.exec
  have hby := Bd.bytes
  have hml : c.maxLocals = 9 := hml0
  have hown : s.vm.findClass "com/example/pricewright/pricewright/core/LongSumTable" = some m.cls := findClass_of_methodNamed Bd.named
  have hnm := (name_of_methodNamed Bd.named Bd.method).1
  have X0 : Stand p l e ({ frames := 3, cells := 2, slots := 20, locals := 64 } : Room) s m #[(.ref a1), (.long q2), (.long q3)] below meth c s₁ [] 0 0 := Stand.of_body Bd
  have e0 : s₁.heap = h0 := by rw [← hh, Bd.state]; rfl
  have N0 := Fr.nil n0
  have pre0 : ∀ t, Steps p.tables e below (s₁.setTop (mkF m 0 #[.val (.ref a1), .val (.long q2), .second, .val (.long q3), .second, .unset, .unset, .unset, .unset] [])) t → Steps p.tables e below (s₁.setTop (entryFrame m #[(.ref a1), (.long q2), (.long q3)] 9)) t := fun t k => castTop (ef_rmC8 m a1 q2 q3) k
  obtain ⟨T1, h1, X1, e1, E1, A1, D1, -, st1⟩ := newO X0 hx hZ hown (hw _ (own_w 49 rfl)) (hw _ (own_w 1 rfl)) (hw _ (own_w 2 rfl)) e0 (g := (mkF m 0 #[.val (.ref a1), .val (.long q2), .second, .val (.long q3), .second, .unset, .unset, .unset, .unset] [])) rfl (hb hby d9_0) (by decide) (by decide)
  obtain ⟨b1o, g1⟩ : ∃ z, z = h0.size := ⟨_, rfl⟩
  have b1 : n0 ≤ b1o := Nat.le_trans Z0 (Nat.le_of_eq g1.symm)
  have bk1 : h0.size ≤ b1o := Nat.le_trans (Keep.refl h0 []).1 (Nat.le_of_eq g1.symm)
  have ne2 : a1 ≠ b1o := Nat.ne_of_lt (Nat.lt_of_lt_of_le E.lt (Nat.le_of_eq g1.symm))
  have ne3 : a ≠ b1o := Nat.ne_of_lt (Nat.lt_of_lt_of_le AV.lt (Nat.le_of_eq g1.symm))
  rw [← g1] at A1 D1 st1
  have Z1 : n0 ≤ h1.size := Nat.le_trans Z0 E1.1
  have K1 : Keep h0 h1 [] := (Keep.refl h0 []).ext E1
  have F1_14 : Fld Z h1 b1o "com/example/pricewright/pricewright/core/LongSumTable" "slots" "[J" .null := D1 (Or.inl (hw _ (own_w 14 rfl))) (ty := (.array .long)) (by decide)
  have F1_26 : Fld Z h1 b1o "com/example/pricewright/pricewright/core/LongSumTable" "shift" "I" (.int (0 : Int32)) := D1 (Or.inl (hw _ (own_w 26 rfl))) (ty := .int) (by decide)
  have F1_41 : Fld Z h1 b1o "com/example/pricewright/pricewright/core/LongSumTable" "sorted" "[J" .null := D1 (Or.inl (hw _ (own_w 41 rfl))) (ty := (.array .long)) (by decide)
  have F1_43 : Fld Z h1 b1o "com/example/pricewright/pricewright/core/LongSumTable" "size" "I" (.int (0 : Int32)) := D1 (Or.inl (hw _ (own_w 43 rfl))) (ty := .int) (by decide)
  have f4 := (FS.ext E1)
  obtain ⟨T5, X5, e5, st5⟩ := getF X1 hx hZ hown (host := "") (Or.inl (hw _ (own_w 13 rfl))) Via.refl e1 f4 (g := (mkF m 5 #[.val (.ref a1), .val (.long q2), .second, .val (.long q3), .second, .unset, .unset, .unset, .unset] [(.ref a1), (.ref b1o), (.ref b1o)])) rfl rfl (hb hby d9_5)
  have f6 := (AV.ext E1)
  obtain ⟨cl7, Ar7, qk7, Sz7, Nn7, Hh7, Gg7⟩ := id (f6)
  have f9 := (E.ext E1)
  have f10 := (FZ.ext E1)
  obtain ⟨_, _, ⟨T8, Lq8, kq8, nq8⟩, -, X8, ⟨Lc8, hQ8, lq8, yq8, zq8⟩, st8⟩ := X5.specialBack hx (y := (⟨"com/example/pricewright/pricewright/core/LongSumTable", "<init>", "(I)V"⟩ : MethodName)) rfl hown (mvT hZ (hw _ (own_w 6 rfl))) (mvT hZ (hw _ (own_w 7 rfl))) (mvT hZ (hw _ (own_w 8 rfl))) (by decide) (backOf (W := 1) (rmI8 l Z a0 hw [] b1o  h1 n0 Z1 A1 F1_14 F1_26 F1_43 F1_41 b1) hZ (hw _ (own_w 8 rfl)) (hw _ (own_w 2 rfl)) (by decide) (by decide)) (g := (mkF m 11 #[.val (.ref a1), .val (.long q2), .second, .val (.long q3), .second, .unset, .unset, .unset, .unset] [(.int (8 : Int32)), (.ref b1o), (.ref b1o)])) rfl (by rw [hml]; rfl) (Steps.refl _) (a := b1o) (argsL := [(.int (8 : Int32))]) (rest := [(.ref b1o)]) (lenOf pd_2 rfl) rfl (by show 2 * 0 + _ ≤ _; exact Nat.le_of_eq rfl) (hb hby d9_11) (fun _ _ => ⟨rfl, e5, (by decide : 1 + 1 ≤ _), (by decide : 4 + 16 ≤ _)⟩)
  dsimp only [Pt.U, Pt.locs, Pt.cells, Pt.slots] at X8 lq8 yq8 zq8 st8 hQ8
  subst lq8 yq8 zq8
  obtain ⟨rfl, N8q, KC8, u8⟩ := hQ8
  have N8 := Fr.app N0 N8q
  have Z8 : n0 ≤ T8.heap.size := Nat.le_trans Z1 KC8.1
  have K8 : Keep h0 T8.heap [] := K1.trans KC8 (allS (Or.inr bk1) all0)
  obtain ⟨sa8, sk8, ga8, gk8, EI8, FS8, FH8, FZ8, FQ8, AV8⟩ := id u8
  have net8 : b1o ≠ sa8 := ne_arrV (EI8) (hw _ (own_w 1 rfl)) AV8
  have ne11 : a1 ≠ sa8 := Nat.ne_of_lt (Nat.lt_of_lt_of_le f10.lt gk8)
  have ne12 : a ≠ sa8 := Nat.ne_of_lt (Nat.lt_of_lt_of_le f6.lt gk8)
  have RR13 : ∃ D2 M2, own_Rep (own_K own_new8) (own_W own_new8) 8 (own_hs 8) D2 M2 (own_cnt (own_K arr) 0) ∧ (∀ x, D2 x ↔ own_PS (own_K arr) q2 0 x) ∧ (∀ j, j < 0 → own_K arr j ≠ own_FREE → M2 (own_K arr j * q2) = own_W arr j * q3) := ⟨_, _, own_rep_empty own_new8K, fun x => ⟨fun w => w.elim, fun ⟨j, w, _⟩ => absurd w (Nat.not_lt_zero j)⟩, fun j w => absurd w (Nat.not_lt_zero j)⟩
  have f14 := (f4.keep KC8 (ninS ne2 nin0))
  have f15 := (f6.keep KC8 (ninS ne3 nin0))
  obtain ⟨T13, h13, L13, ar13, s713, s813, X13, e13, N13, Z13, KT13, hl13, CA13, ⟨D13, M13, Rq13, hD13, hM13⟩, st13⟩ := own_sc (n := 8) (sh := (61 : Int32)) (by decide) (by decide) (by decide) (by decide) hx hZ hw hby hml hown (Or.inr ⟨rfl, rfl⟩) (Or.inr rfl) hb2 hb3 (fun i hi w => ⟨(hbD _ (Rp.1 i hi w).2.1).1, by rw [(Rp.1 i hi w).2.2]; exact (hbD _ (Rp.1 i hi w).2.1).2⟩) (fun a b ha hb na nb w => own_rep_inj Rp ha hb (hiD _ _ (Rp.1 a ha na).2.1 (Rp.1 b hb nb).2.1 w) na) ne12 ne11 net8 ga8 8 0 rfl _ _ _ own_new8 .unset .unset X8 rfl N8 Z8 f14 f15 EI8 FS8 FH8 AV8 (rfl : own_new8.length = 2 * 8) (Or.inl ⟨rfl, rfl⟩) RR13
  have K13 : Keep h0 h13 [] := K8.trans KT13 (allS (Or.inr (Nat.le_trans K1.1 gk8)) all0)
  have f16 := ((f10.keep KC8 (ninS ne2 nin0)).keep KT13 (ninS ne11 nin0))
  obtain ⟨T17, X17, e17, st17⟩ := getF X13 hx hZ hown (host := "") (Or.inl (hw _ (own_w 42 rfl))) Via.refl e13 f16 (g := (mkF m 88 #[.val (.ref a1), .val (.long q2), .second, .val (.long q3), .second, .val (.ref b1o), .val (.int (own_p 8)), s713, s813] [(.ref a1), (.ref b1o)])) rfl rfl (hb hby d9_88)
  have f18 := (EI8.keep KT13)
  have f19 := (FZ8.keep KT13 (ninS net8 nin0))
  obtain ⟨T20, h20, X20, e20, W20, st20⟩ := putF X17 hx hZ hown (host := "") (Or.inl (hw _ (own_w 42 rfl))) Via.refl e17 f19 f18 (Or.inl (hw _ (own_w 43 rfl))) (hw _ (own_w 1 rfl)) (ty := .int) (by decide) rfl rfl (g := (mkF m 91 #[.val (.ref a1), .val (.long q2), .second, .val (.long q3), .second, .val (.ref b1o), .val (.int (own_p 8)), s713, s813] [(.int (Int32.ofNat sz)), (.ref b1o)])) rfl rfl (hb hby d9_91)
  have N20 := Fr.snoc X20 N13 b1
  have Z20 : n0 ≤ h20.size := by rw [W20.size]; exact Z13
  have K20 : Keep h0 h20 [] := K13.wr W20 (Or.inr bk1)
  have Fw20 := f19.same W20
  obtain ⟨fs, hr, hrun, hended, hW, hsame⟩ := X20.leave (v := some (.ref b1o)) (fun h => by rw [Bd.returns] at h; cases h) (BodyLoose.notSynchronized Bd)
  refine ⟨_, _, pre0 _ ?_, hrun, hended, _, _, rfl, ?_, ⟨_, rfl⟩, hW, hsame.mono (by decide) (by decide)⟩
  · show Steps p.tables e below (s₁.setTop (mkF m 0 #[.val (.ref a1), .val (.long q2), .second, .val (.long q3), .second, .unset, .unset, .unset, .unset] [])) _
    refine st1 _ ?_
    refine XS.dup X1.here hx rfl (hb hby d9_3) rfl rfl ?_
    refine XS.aloadN X1.here hx rfl (hb hby d9_4) rfl rfl ?_
    refine st5 _ ?_
    refine X5.arraylength hx (by rw [e5]; exact Ar7.1) (State.isArrayOf_alike hZ.alike Ar7.2.1) (g := (mkF m 8 #[.val (.ref a1), .val (.long q2), .second, .val (.long q3), .second, .unset, .unset, .unset, .unset] [(.ref a), (.ref b1o), (.ref b1o)])) rfl rfl (hb hby d9_8) _ ?_
    rw [len_of Sz7 Nn7]
    show Steps p.tables e below (T5.setTop (mkF m 9 #[.val (.ref a1), .val (.long q2), .second, .val (.long q3), .second, .unset, .unset, .unset, .unset] [(.int (16 : Int32)), (.ref b1o), (.ref b1o)])) _
    refine XS.iconst X5.here hx rfl (hb hby d9_9) ?_
    refine XS.idiv X5.here hx rfl (hb hby d9_10) rfl (by decide) ?_
    refine st8.trans ?_
    refine XS.astore X8.here hx rfl (hb hby d9_14) rfl rfl (l' := #[.val (.ref a1), .val (.long q2), .second, .val (.long q3), .second, .val (.ref b1o), .unset, .unset, .unset]) rfl ?_
    refine XS.iconst X8.here hx rfl (hb hby d9_16) ?_
    refine XS.istore X8.here hx rfl (hb hby d9_17) rfl (l' := #[.val (.ref a1), .val (.long q2), .second, .val (.long q3), .second, .val (.ref b1o), .val (.int (0 : Int32)), .unset, .unset]) rfl ?_
    refine st13 _ ?_
    refine XS.aload X13.here hx rfl (hb hby d9_85) rfl rfl ?_
    refine XS.aloadN X13.here hx rfl (hb hby d9_87) rfl rfl ?_
    refine st17 _ ?_
    refine st20 _ ?_
    refine XS.aload X20.here hx rfl (hb hby d9_94) rfl rfl ?_
    show Steps p.tables e below (T20.setTop (mkF m 96 #[.val (.ref a1), .val (.long q2), .second, .val (.long q3), .second, .val (.ref b1o), .val (.int (own_p 8)), s713, s813] [(.ref b1o)])) _
    exact X20.areturnOut hx rfl Bd.returns rfl (hb hby d9_96) hr
  · show QrmC8 Z a1 q2 q3 a k arr D mm sz h0 n0 _ T20.heap _
    have f21 := (f18.wr W20)
    have f22 := ((FS8.keep KT13 (ninS net8 nin0)).other W20 (Or.inr (slot_ne (Or.inl (hw _ (own_w 14 rfl))) (Or.inl (hw _ (own_w 43 rfl))) (by decide) (t := (.array .long)) (t' := .int) (by decide) (by decide))))
    have f23 := ((FH8.keep KT13 (ninS net8 nin0)).other W20 (Or.inr (slot_ne (Or.inl (hw _ (own_w 26 rfl))) (Or.inl (hw _ (own_w 43 rfl))) (by decide) (t := .int) (t' := .int) (by decide) (by decide))))
    have f24 := ((FQ8.keep KT13 (ninS net8 nin0)).other W20 (Or.inr (slot_ne (Or.inl (hw _ (own_w 41 rfl))) (Or.inl (hw _ (own_w 43 rfl))) (by decide) (t := (.array .long)) (t' := .int) (by decide) (by decide))))
    have f25 := (CA13.other W20 (Ne.symm net8))
    rw [e20]
    exact ⟨b1o, rfl, N20, Z20, K20, b1, bk1, D13, M13, ⟨sa8, _, ar13, 61, Or.inr ⟨rfl, rfl⟩, ga8, f21, f22, f23, Fw20, f24, f25, hl13, by rw [← Rp.2.2.2]; exact Rq13⟩, fun x => (hD13 x).trans (own_psD Rp x), fun y w => own_psM Rp hM13 w⟩
theorem own_and3 (x : Int32) : x &&& (3 : Int32) = (0 : Int32) ∨ x &&& (3 : Int32) = (1 : Int32) ∨ x &&& (3 : Int32) = (2 : Int32) ∨ x &&& (3 : Int32) = (3 : Int32) := by
  have e : (x &&& (3 : Int32)).toUInt32.toNat = x.toUInt32.toNat % 4 := by
    show (x.toUInt32 &&& (3 : UInt32)).toNat = _
    rw [UInt32.toNat_and]; exact Nat.and_two_pow_sub_one_eq_mod _ 2
  have inj : ∀ a b : Int32, a.toUInt32 = b.toUInt32 → a = b := fun ⟨a⟩ ⟨b⟩ h => congrArg Int32.ofUInt32 h
  have k : ∀ (z : Int32), z.toUInt32.toNat = 0 ∨ z.toUInt32.toNat = 1 ∨ z.toUInt32.toNat = 2 ∨ z.toUInt32.toNat = 3 → z = 0 ∨ z = 1 ∨ z = 2 ∨ z = 3 := fun z h => by
    rcases h with h | h | h | h
    · exact Or.inl (inj _ _ (UInt32.toNat_inj.mp h))
    · exact Or.inr (Or.inl (inj _ _ (UInt32.toNat_inj.mp h)))
    · exact Or.inr (Or.inr (Or.inl (inj _ _ (UInt32.toNat_inj.mp h))))
    · exact Or.inr (Or.inr (Or.inr (inj _ _ (UInt32.toNat_inj.mp h))))
  exact k _ (by rw [e]; omega)
theorem own_i2l0 {x : Int32} (h : ¬ x = (0 : Int32)) : ¬ x.toInt64 = (0 : Int64) := fun q => h (Int32.toInt_inj.mp (by
  have e := congrArg Int64.toInt q
  rw [c_i2l] at e; exact e))

theorem d19_0 : decode method_2_code 0 = .ok (.iload_n 2, 1) := by decide +kernel
theorem d19_1 : decode method_2_code 1 = .ok (.iconst 1, 1) := by decide +kernel
theorem d19_2 : decode method_2_code 2 = .ok (.if_icmp .lt 9, 3) := by decide +kernel
theorem d19_5 : decode method_2_code 5 = .ok (.lload_n 0, 1) := by decide +kernel
theorem d19_6 : decode method_2_code 6 = .ok (.lload_n 3, 1) := by decide +kernel
theorem d19_7 : decode method_2_code 7 = .ok (.lcmp, 1) := by decide +kernel
theorem d19_8 : decode method_2_code 8 = .ok (.ifCond .eq 27, 3) := by decide +kernel
theorem d19_11 : decode method_2_code 11 = .ok (.iload_n 2, 1) := by decide +kernel
theorem d19_12 : decode method_2_code 12 = .ok (.iconst 2, 1) := by decide +kernel
theorem d19_13 : decode method_2_code 13 = .ok (.if_icmp .lt 10, 3) := by decide +kernel
theorem d19_23 : decode method_2_code 23 = .ok (.iload_n 2, 1) := by decide +kernel
theorem d19_24 : decode method_2_code 24 = .ok (.iconst 3, 1) := by decide +kernel
theorem d19_25 : decode method_2_code 25 = .ok (.if_icmp .lt 14, 3) := by decide +kernel
theorem d19_35 : decode method_2_code 35 = .ok (.iconst 1, 1) := by decide +kernel
theorem d19_36 : decode method_2_code 36 = .ok (.goto 4, 3) := by decide +kernel
theorem d19_39 : decode method_2_code 39 = .ok (.iconst 0, 1) := by decide +kernel
theorem d19_40 : decode method_2_code 40 = .ok (.ireturn, 1) := by decide +kernel
theorem pn_19 : plainName "com/example/pricewright/pricewright/core/LongSumTableScaledPinLaw" = true := by first | (simp [plainName, overriddenIn]; done) | decide +kernel
theorem ef_rmin1 (m : MethodId) (q1 : Int64) (q3 : Int64) (q4 : Int64) (q5 : Int64) : entryFrame m #[(.long q1), (.int (1 : Int32)), (.long q3), (.long q4), (.long q5)] 9 = mkF m 0 #[.val (.long q1), .second, .val (.int (1 : Int32)), .val (.long q3), .second, .val (.long q4), .second, .val (.long q5), .second] [] := by first | (simp [entryFrame, mkF, argsToLocals, Value.category]; done) | rfl
def Qrmin1 (Z : State) (q1 : Int64) (q3 : Int64) (q4 : Int64) (q5 : Int64) (h0 : Heap) (n0 : Nat) (v : Option Value) (h : Heap) (L : List Loc) : Prop := ∃ z : Int32, z = (if q1 = q3 then 1 else 0) ∧ v = some (.int z) ∧ Fr n0 L ∧ h = h0
set_option maxRecDepth 65536 in
set_option maxHeartbeats 40000000 in
theorem rmin1 (l : Launch) (Z : State) (a0 : Array Value) (hw : ∀ d ∈ tables_1, d.before a0 Z = true) (ws : List Jvm.Cond) (q1 : Int64) (q3 : Int64) (q4 : Int64) (q5 : Int64) (h0 : Heap) (n0 : Nat) (Z0 : n0 ≤ h0.size) :
    MetFree l (⟨"com/example/pricewright/pricewright/core/LongSumTableScaledPinLaw", "in", "(JIJJJ)Z"⟩ : MethodName) (head1 (Jvm.Cond.code (⟨"com/example/pricewright/pricewright/core/LongSumTableScaledPinLaw", "in", "(JIJJJ)Z"⟩ : MethodName) method_2_code 9 (some .boolean) :: ws) ({ frames := 0, cells := 0, slots := 0, locals := 0 } : Room)) (fun a U => a = #[(.long q1), (.int (1 : Int32)), (.long q3), (.long q4), (.long q5)] ∧ Z.Warmed39 U.vm ∧ U.heap = h0) (fun _ _ _ _ _ => True) (fun _ U o U' => ∃ v L, o = .returned v ∧ Qrmin1 Z q1 q3 q4 q5 h0 n0 v U'.heap L ∧ FrameEnd U o U' L ({ frames := 0, cells := 0, slots := 0, locals := 0 } : Room).cells ({ frames := 0, cells := 0, slots := 0, locals := 0 } : Room).slots) := by
  refine MetFree.of_bodySF (plainFor_of_name pn_19) hisR ?_
  intro p e s m args below meth c s₁ Bd hml0 hP hK
  obtain ⟨rfl, hZ, hh⟩ := hP
  have hx := Bd.exec
  have hby := Bd.bytes
  have hml : c.maxLocals = 9 := hml0
  have hown : s.vm.findClass "com/example/pricewright/pricewright/core/LongSumTableScaledPinLaw" = some m.cls := findClass_of_methodNamed Bd.named
  have hnm := (name_of_methodNamed Bd.named Bd.method).1
  have X0 : Stand p l e ({ frames := 0, cells := 0, slots := 0, locals := 0 } : Room) s m #[(.long q1), (.int (1 : Int32)), (.long q3), (.long q4), (.long q5)] below meth c s₁ [] 0 0 := Stand.of_body Bd
  have e0 : s₁.heap = h0 := by rw [← hh, Bd.state]; rfl
  have N0 := Fr.nil n0
  have pre0 : ∀ t, Steps p.tables e below (s₁.setTop (mkF m 0 #[.val (.long q1), .second, .val (.int (1 : Int32)), .val (.long q3), .second, .val (.long q4), .second, .val (.long q5), .second] [])) t → Steps p.tables e below (s₁.setTop (entryFrame m #[(.long q1), (.int (1 : Int32)), (.long q3), (.long q4), (.long q5)] 9)) t := fun t k => castTop (ef_rmin1 m q1 q3 q4 q5) k
  by_cases hc8 : q1 = q3
  · obtain ⟨fs, hr, hrun, hended, hW, hsame⟩ := X0.leave (v := some (.int (1 : Int32))) (fun h => by rw [Bd.returns] at h; cases h) (BodyLoose.notSynchronized Bd)
    refine ⟨_, _, pre0 _ ?_, hrun, hended, _, _, rfl, ?_, ⟨_, rfl⟩, hW, hsame.mono (by decide) (by decide)⟩
    · show Steps p.tables e below (s₁.setTop (mkF m 0 #[.val (.long q1), .second, .val (.int (1 : Int32)), .val (.long q3), .second, .val (.long q4), .second, .val (.long q5), .second] [])) _
      refine XS.iloadN X0.here hx rfl (hb hby d19_0) rfl ?_
      refine XS.iconst X0.here hx rfl (hb hby d19_1) ?_
      refine XS.icmpNo X0.here hx rfl (hb hby d19_2) rfl (flt (by decide)).1 ?_
      refine XS.lloadN X0.here hx rfl (hb hby d19_5) rfl ?_
      refine XS.lloadN X0.here hx rfl (hb hby d19_6) rfl ?_
      refine XS.lcmp X0.here hx rfl (hb hby d19_7) rfl ?_
      refine XS.ifYes X0.here hx rfl (pc0 := 8) (pc' := 35) rfl (hb hby d19_8) rfl ((if0 _ _).trans (teq (own_lceq hc8)).1) (by decide) (by decide) ?_
      refine XS.iconst X0.here hx rfl (hb hby d19_35) ?_
      refine XS.goto X0.here hx rfl (pc0 := 36) (pc' := 40) rfl (hb hby d19_36) (by decide) (by decide) ?_
      show Steps p.tables e below (s₁.setTop (mkF m 40 #[.val (.long q1), .second, .val (.int (1 : Int32)), .val (.long q3), .second, .val (.long q4), .second, .val (.long q5), .second] [(.int (1 : Int32))])) _
      exact retN X0 hx (t := .boolean) Bd.returns (by simp) (hb hby d19_40) hr
    · show Qrmin1 Z q1 q3 q4 q5 h0 n0 _ s₁.heap _
      exact ⟨_, by simp [*], rfl, N0, e0⟩
  · obtain ⟨fs, hr, hrun, hended, hW, hsame⟩ := X0.leave (v := some (.int (0 : Int32))) (fun h => by rw [Bd.returns] at h; cases h) (BodyLoose.notSynchronized Bd)
    refine ⟨_, _, pre0 _ ?_, hrun, hended, _, _, rfl, ?_, ⟨_, rfl⟩, hW, hsame.mono (by decide) (by decide)⟩
    · show Steps p.tables e below (s₁.setTop (mkF m 0 #[.val (.long q1), .second, .val (.int (1 : Int32)), .val (.long q3), .second, .val (.long q4), .second, .val (.long q5), .second] [])) _
      refine XS.iloadN X0.here hx rfl (hb hby d19_0) rfl ?_
      refine XS.iconst X0.here hx rfl (hb hby d19_1) ?_
      refine XS.icmpNo X0.here hx rfl (hb hby d19_2) rfl (flt (by decide)).1 ?_
      refine XS.lloadN X0.here hx rfl (hb hby d19_5) rfl ?_
      refine XS.lloadN X0.here hx rfl (hb hby d19_6) rfl ?_
      refine XS.lcmp X0.here hx rfl (hb hby d19_7) rfl ?_
      refine XS.ifNo X0.here hx rfl (hb hby d19_8) rfl ((if0 _ _).trans (feq (own_lcne hc8)).1) ?_
      refine XS.iloadN X0.here hx rfl (hb hby d19_11) rfl ?_
      refine XS.iconst X0.here hx rfl (hb hby d19_12) ?_
      refine XS.icmpYes X0.here hx rfl (pc0 := 13) (pc' := 23) rfl (hb hby d19_13) rfl (tlt (by decide)).1 (by decide) (by decide) ?_
      refine XS.iloadN X0.here hx rfl (hb hby d19_23) rfl ?_
      refine XS.iconst X0.here hx rfl (hb hby d19_24) ?_
      refine XS.icmpYes X0.here hx rfl (pc0 := 25) (pc' := 39) rfl (hb hby d19_25) rfl (tlt (by decide)).1 (by decide) (by decide) ?_
      refine XS.iconst X0.here hx rfl (hb hby d19_39) ?_
      show Steps p.tables e below (s₁.setTop (mkF m 40 #[.val (.long q1), .second, .val (.int (1 : Int32)), .val (.long q3), .second, .val (.long q4), .second, .val (.long q5), .second] [(.int (0 : Int32))])) _
      exact retN X0 hx (t := .boolean) Bd.returns (by simp) (hb hby d19_40) hr
    · show Qrmin1 Z q1 q3 q4 q5 h0 n0 _ s₁.heap _
      exact ⟨_, by simp [*], rfl, N0, e0⟩
theorem d19_16 : decode method_2_code 16 = .ok (.lload_n 0, 1) := by decide +kernel
theorem d19_17 : decode method_2_code 17 = .ok (.lload 5, 2) := by decide +kernel
theorem d19_19 : decode method_2_code 19 = .ok (.lcmp, 1) := by decide +kernel
theorem d19_20 : decode method_2_code 20 = .ok (.ifCond .eq 15, 3) := by decide +kernel
theorem ef_rmin2 (m : MethodId) (q1 : Int64) (q3 : Int64) (q4 : Int64) (q5 : Int64) : entryFrame m #[(.long q1), (.int (2 : Int32)), (.long q3), (.long q4), (.long q5)] 9 = mkF m 0 #[.val (.long q1), .second, .val (.int (2 : Int32)), .val (.long q3), .second, .val (.long q4), .second, .val (.long q5), .second] [] := by first | (simp [entryFrame, mkF, argsToLocals, Value.category]; done) | rfl
def Qrmin2 (Z : State) (q1 : Int64) (q3 : Int64) (q4 : Int64) (q5 : Int64) (h0 : Heap) (n0 : Nat) (v : Option Value) (h : Heap) (L : List Loc) : Prop := ∃ z : Int32, z = (if q1 = q3 ∨ q1 = q4 then 1 else 0) ∧ v = some (.int z) ∧ Fr n0 L ∧ h = h0
set_option maxRecDepth 65536 in
set_option maxHeartbeats 40000000 in
theorem rmin2 (l : Launch) (Z : State) (a0 : Array Value) (hw : ∀ d ∈ tables_1, d.before a0 Z = true) (ws : List Jvm.Cond) (q1 : Int64) (q3 : Int64) (q4 : Int64) (q5 : Int64) (h0 : Heap) (n0 : Nat) (Z0 : n0 ≤ h0.size) :
    MetFree l (⟨"com/example/pricewright/pricewright/core/LongSumTableScaledPinLaw", "in", "(JIJJJ)Z"⟩ : MethodName) (head1 (Jvm.Cond.code (⟨"com/example/pricewright/pricewright/core/LongSumTableScaledPinLaw", "in", "(JIJJJ)Z"⟩ : MethodName) method_2_code 9 (some .boolean) :: ws) ({ frames := 0, cells := 0, slots := 0, locals := 0 } : Room)) (fun a U => a = #[(.long q1), (.int (2 : Int32)), (.long q3), (.long q4), (.long q5)] ∧ Z.Warmed39 U.vm ∧ U.heap = h0) (fun _ _ _ _ _ => True) (fun _ U o U' => ∃ v L, o = .returned v ∧ Qrmin2 Z q1 q3 q4 q5 h0 n0 v U'.heap L ∧ FrameEnd U o U' L ({ frames := 0, cells := 0, slots := 0, locals := 0 } : Room).cells ({ frames := 0, cells := 0, slots := 0, locals := 0 } : Room).slots) := by
  refine MetFree.of_bodySF (plainFor_of_name pn_19) hisR ?_
  intro p e s m args below meth c s₁ Bd hml0 hP hK
  obtain ⟨rfl, hZ, hh⟩ := hP
  have hx := Bd.exec
  have hby := Bd.bytes
  have hml : c.maxLocals = 9 := hml0
  have hown : s.vm.findClass "com/example/pricewright/pricewright/core/LongSumTableScaledPinLaw" = some m.cls := findClass_of_methodNamed Bd.named
  have hnm := (name_of_methodNamed Bd.named Bd.method).1
  have X0 : Stand p l e ({ frames := 0, cells := 0, slots := 0, locals := 0 } : Room) s m #[(.long q1), (.int (2 : Int32)), (.long q3), (.long q4), (.long q5)] below meth c s₁ [] 0 0 := Stand.of_body Bd
  have e0 : s₁.heap = h0 := by rw [← hh, Bd.state]; rfl
  have N0 := Fr.nil n0
  have pre0 : ∀ t, Steps p.tables e below (s₁.setTop (mkF m 0 #[.val (.long q1), .second, .val (.int (2 : Int32)), .val (.long q3), .second, .val (.long q4), .second, .val (.long q5), .second] [])) t → Steps p.tables e below (s₁.setTop (entryFrame m #[(.long q1), (.int (2 : Int32)), (.long q3), (.long q4), (.long q5)] 9)) t := fun t k => castTop (ef_rmin2 m q1 q3 q4 q5) k
  by_cases hc8 : q1 = q3
  · obtain ⟨fs, hr, hrun, hended, hW, hsame⟩ := X0.leave (v := some (.int (1 : Int32))) (fun h => by rw [Bd.returns] at h; cases h) (BodyLoose.notSynchronized Bd)
    refine ⟨_, _, pre0 _ ?_, hrun, hended, _, _, rfl, ?_, ⟨_, rfl⟩, hW, hsame.mono (by decide) (by decide)⟩
    · show Steps p.tables e below (s₁.setTop (mkF m 0 #[.val (.long q1), .second, .val (.int (2 : Int32)), .val (.long q3), .second, .val (.long q4), .second, .val (.long q5), .second] [])) _
      refine XS.iloadN X0.here hx rfl (hb hby d19_0) rfl ?_
      refine XS.iconst X0.here hx rfl (hb hby d19_1) ?_
      refine XS.icmpNo X0.here hx rfl (hb hby d19_2) rfl (flt (by decide)).1 ?_
      refine XS.lloadN X0.here hx rfl (hb hby d19_5) rfl ?_
      refine XS.lloadN X0.here hx rfl (hb hby d19_6) rfl ?_
      refine XS.lcmp X0.here hx rfl (hb hby d19_7) rfl ?_
      refine XS.ifYes X0.here hx rfl (pc0 := 8) (pc' := 35) rfl (hb hby d19_8) rfl ((if0 _ _).trans (teq (own_lceq hc8)).1) (by decide) (by decide) ?_
      refine XS.iconst X0.here hx rfl (hb hby d19_35) ?_
      refine XS.goto X0.here hx rfl (pc0 := 36) (pc' := 40) rfl (hb hby d19_36) (by decide) (by decide) ?_
      show Steps p.tables e below (s₁.setTop (mkF m 40 #[.val (.long q1), .second, .val (.int (2 : Int32)), .val (.long q3), .second, .val (.long q4), .second, .val (.long q5), .second] [(.int (1 : Int32))])) _
      exact retN X0 hx (t := .boolean) Bd.returns (by simp) (hb hby d19_40) hr
    · show Qrmin2 Z q1 q3 q4 q5 h0 n0 _ s₁.heap _
      exact ⟨_, by simp [*], rfl, N0, e0⟩
  · by_cases hc20 : q1 = q4
    · obtain ⟨fs, hr, hrun, hended, hW, hsame⟩ := X0.leave (v := some (.int (1 : Int32))) (fun h => by rw [Bd.returns] at h; cases h) (BodyLoose.notSynchronized Bd)
      refine ⟨_, _, pre0 _ ?_, hrun, hended, _, _, rfl, ?_, ⟨_, rfl⟩, hW, hsame.mono (by decide) (by decide)⟩
      · show Steps p.tables e below (s₁.setTop (mkF m 0 #[.val (.long q1), .second, .val (.int (2 : Int32)), .val (.long q3), .second, .val (.long q4), .second, .val (.long q5), .second] [])) _
        refine XS.iloadN X0.here hx rfl (hb hby d19_0) rfl ?_
        refine XS.iconst X0.here hx rfl (hb hby d19_1) ?_
        refine XS.icmpNo X0.here hx rfl (hb hby d19_2) rfl (flt (by decide)).1 ?_
        refine XS.lloadN X0.here hx rfl (hb hby d19_5) rfl ?_
        refine XS.lloadN X0.here hx rfl (hb hby d19_6) rfl ?_
        refine XS.lcmp X0.here hx rfl (hb hby d19_7) rfl ?_
        refine XS.ifNo X0.here hx rfl (hb hby d19_8) rfl ((if0 _ _).trans (feq (own_lcne hc8)).1) ?_
        refine XS.iloadN X0.here hx rfl (hb hby d19_11) rfl ?_
        refine XS.iconst X0.here hx rfl (hb hby d19_12) ?_
        refine XS.icmpNo X0.here hx rfl (hb hby d19_13) rfl (flt (by decide)).1 ?_
        refine XS.lloadN X0.here hx rfl (hb hby d19_16) rfl ?_
        refine XS.lload X0.here hx rfl (hb hby d19_17) rfl ?_
        refine XS.lcmp X0.here hx rfl (hb hby d19_19) rfl ?_
        refine XS.ifYes X0.here hx rfl (pc0 := 20) (pc' := 35) rfl (hb hby d19_20) rfl ((if0 _ _).trans (teq (own_lceq hc20)).1) (by decide) (by decide) ?_
        refine XS.iconst X0.here hx rfl (hb hby d19_35) ?_
        refine XS.goto X0.here hx rfl (pc0 := 36) (pc' := 40) rfl (hb hby d19_36) (by decide) (by decide) ?_
        show Steps p.tables e below (s₁.setTop (mkF m 40 #[.val (.long q1), .second, .val (.int (2 : Int32)), .val (.long q3), .second, .val (.long q4), .second, .val (.long q5), .second] [(.int (1 : Int32))])) _
        exact retN X0 hx (t := .boolean) Bd.returns (by simp) (hb hby d19_40) hr
      · show Qrmin2 Z q1 q3 q4 q5 h0 n0 _ s₁.heap _
        exact ⟨_, by simp [*], rfl, N0, e0⟩
    · obtain ⟨fs, hr, hrun, hended, hW, hsame⟩ := X0.leave (v := some (.int (0 : Int32))) (fun h => by rw [Bd.returns] at h; cases h) (BodyLoose.notSynchronized Bd)
      refine ⟨_, _, pre0 _ ?_, hrun, hended, _, _, rfl, ?_, ⟨_, rfl⟩, hW, hsame.mono (by decide) (by decide)⟩
      · show Steps p.tables e below (s₁.setTop (mkF m 0 #[.val (.long q1), .second, .val (.int (2 : Int32)), .val (.long q3), .second, .val (.long q4), .second, .val (.long q5), .second] [])) _
        refine XS.iloadN X0.here hx rfl (hb hby d19_0) rfl ?_
        refine XS.iconst X0.here hx rfl (hb hby d19_1) ?_
        refine XS.icmpNo X0.here hx rfl (hb hby d19_2) rfl (flt (by decide)).1 ?_
        refine XS.lloadN X0.here hx rfl (hb hby d19_5) rfl ?_
        refine XS.lloadN X0.here hx rfl (hb hby d19_6) rfl ?_
        refine XS.lcmp X0.here hx rfl (hb hby d19_7) rfl ?_
        refine XS.ifNo X0.here hx rfl (hb hby d19_8) rfl ((if0 _ _).trans (feq (own_lcne hc8)).1) ?_
        refine XS.iloadN X0.here hx rfl (hb hby d19_11) rfl ?_
        refine XS.iconst X0.here hx rfl (hb hby d19_12) ?_
        refine XS.icmpNo X0.here hx rfl (hb hby d19_13) rfl (flt (by decide)).1 ?_
        refine XS.lloadN X0.here hx rfl (hb hby d19_16) rfl ?_
        refine XS.lload X0.here hx rfl (hb hby d19_17) rfl ?_
        refine XS.lcmp X0.here hx rfl (hb hby d19_19) rfl ?_
        refine XS.ifNo X0.here hx rfl (hb hby d19_20) rfl ((if0 _ _).trans (feq (own_lcne hc20)).1) ?_
        refine XS.iloadN X0.here hx rfl (hb hby d19_23) rfl ?_
        refine XS.iconst X0.here hx rfl (hb hby d19_24) ?_
        refine XS.icmpYes X0.here hx rfl (pc0 := 25) (pc' := 39) rfl (hb hby d19_25) rfl (tlt (by decide)).1 (by decide) (by decide) ?_
        refine XS.iconst X0.here hx rfl (hb hby d19_39) ?_
        show Steps p.tables e below (s₁.setTop (mkF m 40 #[.val (.long q1), .second, .val (.int (2 : Int32)), .val (.long q3), .second, .val (.long q4), .second, .val (.long q5), .second] [(.int (0 : Int32))])) _
        exact retN X0 hx (t := .boolean) Bd.returns (by simp) (hb hby d19_40) hr
      · show Qrmin2 Z q1 q3 q4 q5 h0 n0 _ s₁.heap _
        exact ⟨_, by simp [*], rfl, N0, e0⟩
theorem d19_28 : decode method_2_code 28 = .ok (.lload_n 0, 1) := by decide +kernel
theorem d19_29 : decode method_2_code 29 = .ok (.lload 7, 2) := by decide +kernel
theorem d19_31 : decode method_2_code 31 = .ok (.lcmp, 1) := by decide +kernel
theorem d19_32 : decode method_2_code 32 = .ok (.ifCond .ne 7, 3) := by decide +kernel
theorem ef_rmin3 (m : MethodId) (q1 : Int64) (q3 : Int64) (q4 : Int64) (q5 : Int64) : entryFrame m #[(.long q1), (.int (3 : Int32)), (.long q3), (.long q4), (.long q5)] 9 = mkF m 0 #[.val (.long q1), .second, .val (.int (3 : Int32)), .val (.long q3), .second, .val (.long q4), .second, .val (.long q5), .second] [] := by first | (simp [entryFrame, mkF, argsToLocals, Value.category]; done) | rfl
def Qrmin3 (Z : State) (q1 : Int64) (q3 : Int64) (q4 : Int64) (q5 : Int64) (h0 : Heap) (n0 : Nat) (v : Option Value) (h : Heap) (L : List Loc) : Prop := ∃ z : Int32, z = (if q1 = q3 ∨ q1 = q4 ∨ q1 = q5 then 1 else 0) ∧ v = some (.int z) ∧ Fr n0 L ∧ h = h0
set_option maxRecDepth 65536 in
set_option maxHeartbeats 40000000 in
theorem rmin3 (l : Launch) (Z : State) (a0 : Array Value) (hw : ∀ d ∈ tables_1, d.before a0 Z = true) (ws : List Jvm.Cond) (q1 : Int64) (q3 : Int64) (q4 : Int64) (q5 : Int64) (h0 : Heap) (n0 : Nat) (Z0 : n0 ≤ h0.size) :
    MetFree l (⟨"com/example/pricewright/pricewright/core/LongSumTableScaledPinLaw", "in", "(JIJJJ)Z"⟩ : MethodName) (head1 (Jvm.Cond.code (⟨"com/example/pricewright/pricewright/core/LongSumTableScaledPinLaw", "in", "(JIJJJ)Z"⟩ : MethodName) method_2_code 9 (some .boolean) :: ws) ({ frames := 0, cells := 0, slots := 0, locals := 0 } : Room)) (fun a U => a = #[(.long q1), (.int (3 : Int32)), (.long q3), (.long q4), (.long q5)] ∧ Z.Warmed39 U.vm ∧ U.heap = h0) (fun _ _ _ _ _ => True) (fun _ U o U' => ∃ v L, o = .returned v ∧ Qrmin3 Z q1 q3 q4 q5 h0 n0 v U'.heap L ∧ FrameEnd U o U' L ({ frames := 0, cells := 0, slots := 0, locals := 0 } : Room).cells ({ frames := 0, cells := 0, slots := 0, locals := 0 } : Room).slots) := by
  refine MetFree.of_bodySF (plainFor_of_name pn_19) hisR ?_
  intro p e s m args below meth c s₁ Bd hml0 hP hK
  obtain ⟨rfl, hZ, hh⟩ := hP
  have hx := Bd.exec
  have hby := Bd.bytes
  have hml : c.maxLocals = 9 := hml0
  have hown : s.vm.findClass "com/example/pricewright/pricewright/core/LongSumTableScaledPinLaw" = some m.cls := findClass_of_methodNamed Bd.named
  have hnm := (name_of_methodNamed Bd.named Bd.method).1
  have X0 : Stand p l e ({ frames := 0, cells := 0, slots := 0, locals := 0 } : Room) s m #[(.long q1), (.int (3 : Int32)), (.long q3), (.long q4), (.long q5)] below meth c s₁ [] 0 0 := Stand.of_body Bd
  have e0 : s₁.heap = h0 := by rw [← hh, Bd.state]; rfl
  have N0 := Fr.nil n0
  have pre0 : ∀ t, Steps p.tables e below (s₁.setTop (mkF m 0 #[.val (.long q1), .second, .val (.int (3 : Int32)), .val (.long q3), .second, .val (.long q4), .second, .val (.long q5), .second] [])) t → Steps p.tables e below (s₁.setTop (entryFrame m #[(.long q1), (.int (3 : Int32)), (.long q3), (.long q4), (.long q5)] 9)) t := fun t k => castTop (ef_rmin3 m q1 q3 q4 q5) k
  by_cases hc8 : q1 = q3
  · obtain ⟨fs, hr, hrun, hended, hW, hsame⟩ := X0.leave (v := some (.int (1 : Int32))) (fun h => by rw [Bd.returns] at h; cases h) (BodyLoose.notSynchronized Bd)
    refine ⟨_, _, pre0 _ ?_, hrun, hended, _, _, rfl, ?_, ⟨_, rfl⟩, hW, hsame.mono (by decide) (by decide)⟩
    · show Steps p.tables e below (s₁.setTop (mkF m 0 #[.val (.long q1), .second, .val (.int (3 : Int32)), .val (.long q3), .second, .val (.long q4), .second, .val (.long q5), .second] [])) _
      refine XS.iloadN X0.here hx rfl (hb hby d19_0) rfl ?_
      refine XS.iconst X0.here hx rfl (hb hby d19_1) ?_
      refine XS.icmpNo X0.here hx rfl (hb hby d19_2) rfl (flt (by decide)).1 ?_
      refine XS.lloadN X0.here hx rfl (hb hby d19_5) rfl ?_
      refine XS.lloadN X0.here hx rfl (hb hby d19_6) rfl ?_
      refine XS.lcmp X0.here hx rfl (hb hby d19_7) rfl ?_
      refine XS.ifYes X0.here hx rfl (pc0 := 8) (pc' := 35) rfl (hb hby d19_8) rfl ((if0 _ _).trans (teq (own_lceq hc8)).1) (by decide) (by decide) ?_
      refine XS.iconst X0.here hx rfl (hb hby d19_35) ?_
      refine XS.goto X0.here hx rfl (pc0 := 36) (pc' := 40) rfl (hb hby d19_36) (by decide) (by decide) ?_
      show Steps p.tables e below (s₁.setTop (mkF m 40 #[.val (.long q1), .second, .val (.int (3 : Int32)), .val (.long q3), .second, .val (.long q4), .second, .val (.long q5), .second] [(.int (1 : Int32))])) _
      exact retN X0 hx (t := .boolean) Bd.returns (by simp) (hb hby d19_40) hr
    · show Qrmin3 Z q1 q3 q4 q5 h0 n0 _ s₁.heap _
      exact ⟨_, by simp [*], rfl, N0, e0⟩
  · by_cases hc20 : q1 = q4
    · obtain ⟨fs, hr, hrun, hended, hW, hsame⟩ := X0.leave (v := some (.int (1 : Int32))) (fun h => by rw [Bd.returns] at h; cases h) (BodyLoose.notSynchronized Bd)
      refine ⟨_, _, pre0 _ ?_, hrun, hended, _, _, rfl, ?_, ⟨_, rfl⟩, hW, hsame.mono (by decide) (by decide)⟩
      · show Steps p.tables e below (s₁.setTop (mkF m 0 #[.val (.long q1), .second, .val (.int (3 : Int32)), .val (.long q3), .second, .val (.long q4), .second, .val (.long q5), .second] [])) _
        refine XS.iloadN X0.here hx rfl (hb hby d19_0) rfl ?_
        refine XS.iconst X0.here hx rfl (hb hby d19_1) ?_
        refine XS.icmpNo X0.here hx rfl (hb hby d19_2) rfl (flt (by decide)).1 ?_
        refine XS.lloadN X0.here hx rfl (hb hby d19_5) rfl ?_
        refine XS.lloadN X0.here hx rfl (hb hby d19_6) rfl ?_
        refine XS.lcmp X0.here hx rfl (hb hby d19_7) rfl ?_
        refine XS.ifNo X0.here hx rfl (hb hby d19_8) rfl ((if0 _ _).trans (feq (own_lcne hc8)).1) ?_
        refine XS.iloadN X0.here hx rfl (hb hby d19_11) rfl ?_
        refine XS.iconst X0.here hx rfl (hb hby d19_12) ?_
        refine XS.icmpNo X0.here hx rfl (hb hby d19_13) rfl (flt (by decide)).1 ?_
        refine XS.lloadN X0.here hx rfl (hb hby d19_16) rfl ?_
        refine XS.lload X0.here hx rfl (hb hby d19_17) rfl ?_
        refine XS.lcmp X0.here hx rfl (hb hby d19_19) rfl ?_
        refine XS.ifYes X0.here hx rfl (pc0 := 20) (pc' := 35) rfl (hb hby d19_20) rfl ((if0 _ _).trans (teq (own_lceq hc20)).1) (by decide) (by decide) ?_
        refine XS.iconst X0.here hx rfl (hb hby d19_35) ?_
        refine XS.goto X0.here hx rfl (pc0 := 36) (pc' := 40) rfl (hb hby d19_36) (by decide) (by decide) ?_
        show Steps p.tables e below (s₁.setTop (mkF m 40 #[.val (.long q1), .second, .val (.int (3 : Int32)), .val (.long q3), .second, .val (.long q4), .second, .val (.long q5), .second] [(.int (1 : Int32))])) _
        exact retN X0 hx (t := .boolean) Bd.returns (by simp) (hb hby d19_40) hr
      · show Qrmin3 Z q1 q3 q4 q5 h0 n0 _ s₁.heap _
        exact ⟨_, by simp [*], rfl, N0, e0⟩
    · by_cases hc32 : q1 = q5
      · obtain ⟨fs, hr, hrun, hended, hW, hsame⟩ := X0.leave (v := some (.int (1 : Int32))) (fun h => by rw [Bd.returns] at h; cases h) (BodyLoose.notSynchronized Bd)
        refine ⟨_, _, pre0 _ ?_, hrun, hended, _, _, rfl, ?_, ⟨_, rfl⟩, hW, hsame.mono (by decide) (by decide)⟩
        · show Steps p.tables e below (s₁.setTop (mkF m 0 #[.val (.long q1), .second, .val (.int (3 : Int32)), .val (.long q3), .second, .val (.long q4), .second, .val (.long q5), .second] [])) _
          refine XS.iloadN X0.here hx rfl (hb hby d19_0) rfl ?_
          refine XS.iconst X0.here hx rfl (hb hby d19_1) ?_
          refine XS.icmpNo X0.here hx rfl (hb hby d19_2) rfl (flt (by decide)).1 ?_
          refine XS.lloadN X0.here hx rfl (hb hby d19_5) rfl ?_
          refine XS.lloadN X0.here hx rfl (hb hby d19_6) rfl ?_
          refine XS.lcmp X0.here hx rfl (hb hby d19_7) rfl ?_
          refine XS.ifNo X0.here hx rfl (hb hby d19_8) rfl ((if0 _ _).trans (feq (own_lcne hc8)).1) ?_
          refine XS.iloadN X0.here hx rfl (hb hby d19_11) rfl ?_
          refine XS.iconst X0.here hx rfl (hb hby d19_12) ?_
          refine XS.icmpNo X0.here hx rfl (hb hby d19_13) rfl (flt (by decide)).1 ?_
          refine XS.lloadN X0.here hx rfl (hb hby d19_16) rfl ?_
          refine XS.lload X0.here hx rfl (hb hby d19_17) rfl ?_
          refine XS.lcmp X0.here hx rfl (hb hby d19_19) rfl ?_
          refine XS.ifNo X0.here hx rfl (hb hby d19_20) rfl ((if0 _ _).trans (feq (own_lcne hc20)).1) ?_
          refine XS.iloadN X0.here hx rfl (hb hby d19_23) rfl ?_
          refine XS.iconst X0.here hx rfl (hb hby d19_24) ?_
          refine XS.icmpNo X0.here hx rfl (hb hby d19_25) rfl (flt (by decide)).1 ?_
          refine XS.lloadN X0.here hx rfl (hb hby d19_28) rfl ?_
          refine XS.lload X0.here hx rfl (hb hby d19_29) rfl ?_
          refine XS.lcmp X0.here hx rfl (hb hby d19_31) rfl ?_
          refine XS.ifNo X0.here hx rfl (hb hby d19_32) rfl ((if0 _ _).trans (teq (own_lceq hc32)).2) ?_
          refine XS.iconst X0.here hx rfl (hb hby d19_35) ?_
          refine XS.goto X0.here hx rfl (pc0 := 36) (pc' := 40) rfl (hb hby d19_36) (by decide) (by decide) ?_
          show Steps p.tables e below (s₁.setTop (mkF m 40 #[.val (.long q1), .second, .val (.int (3 : Int32)), .val (.long q3), .second, .val (.long q4), .second, .val (.long q5), .second] [(.int (1 : Int32))])) _
          exact retN X0 hx (t := .boolean) Bd.returns (by simp) (hb hby d19_40) hr
        · show Qrmin3 Z q1 q3 q4 q5 h0 n0 _ s₁.heap _
          exact ⟨_, by simp [*], rfl, N0, e0⟩
      · obtain ⟨fs, hr, hrun, hended, hW, hsame⟩ := X0.leave (v := some (.int (0 : Int32))) (fun h => by rw [Bd.returns] at h; cases h) (BodyLoose.notSynchronized Bd)
        refine ⟨_, _, pre0 _ ?_, hrun, hended, _, _, rfl, ?_, ⟨_, rfl⟩, hW, hsame.mono (by decide) (by decide)⟩
        · show Steps p.tables e below (s₁.setTop (mkF m 0 #[.val (.long q1), .second, .val (.int (3 : Int32)), .val (.long q3), .second, .val (.long q4), .second, .val (.long q5), .second] [])) _
          refine XS.iloadN X0.here hx rfl (hb hby d19_0) rfl ?_
          refine XS.iconst X0.here hx rfl (hb hby d19_1) ?_
          refine XS.icmpNo X0.here hx rfl (hb hby d19_2) rfl (flt (by decide)).1 ?_
          refine XS.lloadN X0.here hx rfl (hb hby d19_5) rfl ?_
          refine XS.lloadN X0.here hx rfl (hb hby d19_6) rfl ?_
          refine XS.lcmp X0.here hx rfl (hb hby d19_7) rfl ?_
          refine XS.ifNo X0.here hx rfl (hb hby d19_8) rfl ((if0 _ _).trans (feq (own_lcne hc8)).1) ?_
          refine XS.iloadN X0.here hx rfl (hb hby d19_11) rfl ?_
          refine XS.iconst X0.here hx rfl (hb hby d19_12) ?_
          refine XS.icmpNo X0.here hx rfl (hb hby d19_13) rfl (flt (by decide)).1 ?_
          refine XS.lloadN X0.here hx rfl (hb hby d19_16) rfl ?_
          refine XS.lload X0.here hx rfl (hb hby d19_17) rfl ?_
          refine XS.lcmp X0.here hx rfl (hb hby d19_19) rfl ?_
          refine XS.ifNo X0.here hx rfl (hb hby d19_20) rfl ((if0 _ _).trans (feq (own_lcne hc20)).1) ?_
          refine XS.iloadN X0.here hx rfl (hb hby d19_23) rfl ?_
          refine XS.iconst X0.here hx rfl (hb hby d19_24) ?_
          refine XS.icmpNo X0.here hx rfl (hb hby d19_25) rfl (flt (by decide)).1 ?_
          refine XS.lloadN X0.here hx rfl (hb hby d19_28) rfl ?_
          refine XS.lload X0.here hx rfl (hb hby d19_29) rfl ?_
          refine XS.lcmp X0.here hx rfl (hb hby d19_31) rfl ?_
          refine XS.ifYes X0.here hx rfl (pc0 := 32) (pc' := 39) rfl (hb hby d19_32) rfl ((if0 _ _).trans (feq (own_lcne hc32)).2) (by decide) (by decide) ?_
          refine XS.iconst X0.here hx rfl (hb hby d19_39) ?_
          show Steps p.tables e below (s₁.setTop (mkF m 40 #[.val (.long q1), .second, .val (.int (3 : Int32)), .val (.long q3), .second, .val (.long q4), .second, .val (.long q5), .second] [(.int (0 : Int32))])) _
          exact retN X0 hx (t := .boolean) Bd.returns (by simp) (hb hby d19_40) hr
        · show Qrmin3 Z q1 q3 q4 q5 h0 n0 _ s₁.heap _
          exact ⟨_, by simp [*], rfl, N0, e0⟩
theorem pd_10 : parseMethodDescriptor "()V" = some ⟨[], none⟩ := by decide +kernel
theorem pd_11 : parseMethodDescriptor "(JJ)Lcom/example/pricewright/pricewright/core/LongSumTable;" = some ⟨[.long, .long], some (.object "com/example/pricewright/pricewright/core/LongSumTable")⟩ := by decide +kernel
theorem pd_12 : parseMethodDescriptor "()[J" = some ⟨[], some (.array .long)⟩ := by decide +kernel
set_option maxRecDepth 65536 in
set_option maxHeartbeats 40000000 in
theorem own_tl0 {p : Program} {l : Launch} {e : Env} {s : State} {m : MethodId} {below : List Frame} {meth : Method} {c : Code} {T0 : State} {L0 : List Loc} {Z : State} {a0 : Array Value} {h0 : Heap} {n0 : Nat} {q1 q2 q3 k1 v1 k2 v2 k3 v3 : Int64} {p4 p5 p6 : Int32} (hx : p.tables.exec = Jvm.exec) (hZ : Z.Warmed39 s.vm) (hw : ∀ d ∈ tables_1, d.before a0 Z = true) (hby : c.code = code) (hml : c.maxLocals = 36) (hown : s.vm.findClass "com/example/pricewright/pricewright/core/LongSumTableScaledPinLaw" = some m.cls) (X0 : Stand p l e room_1 s m #[.long q1, .long q2, .long q3, .int p4, .int p5, .int p6] below meth c T0 L0 0 0) (e0 : T0.heap = h0) (N0 : Fr n0 L0) (Z0 : n0 ≤ h0.size) (hB1 : own_B k1) (hB2 : own_B k2) (hB3 : own_B k3) (hC1 : own_B v1) (hC2 : own_B v2) (hC3 : own_B v3) :
    ∃ (T' : State) (L' : List Loc) (Ls : Array Slot), Stand p l e room_1 s m #[.long q1, .long q2, .long q3, .int p4, .int p5, .int p6] below meth c T' L' (5) (24) ∧ Fr n0 L' ∧ ∀ target, Steps p.tables e below (T'.setTop (mkF m 466 Ls [.int (1 : Int32)])) target → Steps p.tables e below (T0.setTop (mkF m 101 #[.val (.long q1), .second, .val (.long q2), .second, .val (.long q3), .second, .val (.int p4), .val (.int p5), .val (.int p6), .val (.int (0 : Int32)), .val (.long k1), .second, .val (.long v1), .second, .val (.long k2), .second, .val (.long v2), .second, .val (.long k3), .second, .val (.long v3), .second, .unset, .unset, .unset, .unset, .unset, .unset, .unset, .unset, .unset, .unset, .unset, .unset, .unset, .unset] [])) target := by
  obtain ⟨T1, h1, X1, e1, E1, A1, D1, -, st1⟩ := newO X0 hx hZ hown (hw _ (own_w 0 rfl)) (hw _ (own_w 1 rfl)) (hw _ (own_w 2 rfl)) e0 (g := (mkF m 101 #[.val (.long q1), .second, .val (.long q2), .second, .val (.long q3), .second, .val (.int p4), .val (.int p5), .val (.int p6), .val (.int (0 : Int32)), .val (.long k1), .second, .val (.long v1), .second, .val (.long k2), .second, .val (.long v2), .second, .val (.long k3), .second, .val (.long v3), .second, .unset, .unset, .unset, .unset, .unset, .unset, .unset, .unset, .unset, .unset, .unset, .unset, .unset, .unset] [])) rfl (hb hby at_101) (by decide) (by decide)
  obtain ⟨b1o, g1⟩ : ∃ z, z = h0.size := ⟨_, rfl⟩
  have b1 : n0 ≤ b1o := Nat.le_trans Z0 (Nat.le_of_eq g1.symm)
  rw [← g1] at A1 D1 st1
  have Z1 : n0 ≤ h1.size := Nat.le_trans Z0 E1.1
  have F1_14 : Fld Z h1 b1o "com/example/pricewright/pricewright/core/LongSumTable" "slots" "[J" .null := D1 (Or.inl (hw _ (own_w 14 rfl))) (ty := (.array .long)) (by decide)
  have F1_26 : Fld Z h1 b1o "com/example/pricewright/pricewright/core/LongSumTable" "shift" "I" (.int (0 : Int32)) := D1 (Or.inl (hw _ (own_w 26 rfl))) (ty := .int) (by decide)
  have F1_41 : Fld Z h1 b1o "com/example/pricewright/pricewright/core/LongSumTable" "sorted" "[J" .null := D1 (Or.inl (hw _ (own_w 41 rfl))) (ty := (.array .long)) (by decide)
  have F1_43 : Fld Z h1 b1o "com/example/pricewright/pricewright/core/LongSumTable" "size" "I" (.int (0 : Int32)) := D1 (Or.inl (hw _ (own_w 43 rfl))) (ty := .int) (by decide)
  obtain ⟨_, _, ⟨T2, Lq2, kq2, nq2⟩, -, X2, ⟨Lc2, hQ2, lq2, yq2, zq2⟩, st2⟩ := X1.specialBack hx (y := (⟨"com/example/pricewright/pricewright/core/LongSumTable", "<init>", "()V"⟩ : MethodName)) rfl hown (mvT hZ (hw _ (own_w 3 rfl))) (mvT hZ (hw _ (own_w 4 rfl))) (mvT hZ (hw _ (own_w 5 rfl))) (by decide) (backOf (W := 1) (rmI0 l Z a0 hw [] b1o  h1 n0 Z1 A1 F1_14 F1_26 F1_43 F1_41 b1) hZ (hw _ (own_w 5 rfl)) (hw _ (own_w 2 rfl)) (by decide) (by decide)) (g := (mkF m 105 #[.val (.long q1), .second, .val (.long q2), .second, .val (.long q3), .second, .val (.int p4), .val (.int p5), .val (.int p6), .val (.int (0 : Int32)), .val (.long k1), .second, .val (.long v1), .second, .val (.long k2), .second, .val (.long v2), .second, .val (.long k3), .second, .val (.long v3), .second, .unset, .unset, .unset, .unset, .unset, .unset, .unset, .unset, .unset, .unset, .unset, .unset, .unset, .unset] [(.ref b1o), (.ref b1o)])) rfl (by rw [hml]; rfl) (Steps.refl _) (a := b1o) (argsL := []) (rest := [(.ref b1o)]) (lenOf pd_10 rfl) rfl (by show 2 * 0 + _ ≤ _; exact Nat.le_of_eq rfl) (hb hby at_105) (fun _ _ => ⟨rfl, e1, (by decide : 1 + 1 ≤ _), (by decide : 4 + 8 ≤ _)⟩)
  dsimp only [Pt.U, Pt.locs, Pt.cells, Pt.slots] at X2 lq2 yq2 zq2 st2 hQ2
  subst lq2 yq2 zq2
  obtain ⟨rfl, N2q, KC2, u2⟩ := hQ2
  have N2 := Fr.app N0 N2q
  have Z2 : n0 ≤ T2.heap.size := Nat.le_trans Z1 KC2.1
  obtain ⟨sa2, sk2, ga2, gk2, EI2, FS2, FH2, FZ2, FQ2, AV2⟩ := id u2
  have net2 : b1o ≠ sa2 := ne_arrV (EI2) (hw _ (own_w 1 rfl)) AV2
  have rp2e := own_rep_empty (W := own_W own_new4) (hs := own_hs 4) own_new4K
  have fr2e : ∃ j, j < 4 ∧ own_K own_new4 j = own_FREE := ⟨0, by decide, own_new4K 0 (by decide)⟩
  obtain ⟨ff, hff⟩ : ∃ z : Int64, z = (p4.toInt64) := ⟨_, rfl⟩
  have hBf : own_B ff := by rw [hff]; exact own_Bi p4
  obtain ⟨gg, hgg⟩ : ∃ z : Int64, z = (p5.toInt64) := ⟨_, rfl⟩
  have hBg : own_B gg := by rw [hgg]; exact own_Bi p5
  have hDs : ∀ x : Int64, (fun _ => False) x ↔ (False) := fun x => by simp [or_assoc]
  have hbD : ∀ x : Int64, (fun _ => False) x → own_B x ∧ own_B ((fun _ => 0) x) := fun x w => by
    exact ((hDs x).mp w).elim
  obtain ⟨cq3, kz3, q3a, q3b, q3c⟩ := isOf hZ rfl EI2
  obtain ⟨_, _, ⟨T3, Lq3, kq3, nq3⟩, -, X3, ⟨Lc3, hQ3, lq3, yq3, zq3⟩, st3⟩ := X2.virtualBack hx (y := (⟨"com/example/pricewright/pricewright/core/LongSumTable", "scaled", "(JJ)Lcom/example/pricewright/pricewright/core/LongSumTable;"⟩ : MethodName)) (z := (⟨"com/example/pricewright/pricewright/core/LongSumTable", "scaled", "(JJ)Lcom/example/pricewright/pricewright/core/LongSumTable;"⟩ : MethodName)) hown (mvT hZ (hw _ (own_w 44 rfl))) (mvT hZ (hw _ (own_w 45 rfl))) (notFace_of_selects (args := #[]) (mvT hZ (hw _ (own_w 47 rfl)))) (mvT hZ (hw _ (own_w 47 rfl))) (mvT hZ (hw _ (own_w 46 rfl))) (by decide) (backOf (W := 0) (rmC4 l Z a0 hw [] b1o ff gg sa2 sk2 own_new4 (fun _ => False) (fun _ => 0) (0) T2.heap n0 Z2 EI2 FS2 FZ2 AV2 net2 rp2e hBf hBg hbD (fun x y w _ _ => ((hDs x).mp w).elim)) hZ (hw _ (own_w 48 rfl)) (hw _ (own_w 2 rfl)) (by decide) (by decide)) q3a q3c (g := (mkF m 171 #[.val (.long q1), .second, .val (.long q2), .second, .val (.long q3), .second, .val (.int p4), .val (.int p5), .val (.int p6), .val (.int (0 : Int32)), .val (.long k1), .second, .val (.long v1), .second, .val (.long k2), .second, .val (.long v2), .second, .val (.long k3), .second, .val (.long v3), .second, .val (.ref b1o), .val (.long ff), .second, .val (.long gg), .second, .unset, .unset, .unset, .unset, .unset, .unset, .unset, .unset, .unset] [(.long gg), (.long ff), (.ref b1o)])) rfl (by rw [hml]; rfl) (Steps.refl _) (argsL := [(.long ff), (.long gg)]) (rest := []) (lenOf pd_11 rfl) rfl (by show 2 * 0 + _ ≤ _; exact Nat.le_of_eq rfl) (hb hby at_171) (fun _ _ => ⟨rfl, rfl, (by decide : 2 + 2 ≤ _), (by decide : 12 + 12 ≤ _)⟩)
  dsimp only [Pt.U, Pt.locs, Pt.cells, Pt.slots] at X3 lq3 yq3 zq3 st3 hQ3
  subst lq3 yq3 zq3
  obtain ⟨cp, rfl, N3q, Z3, KC3, gcp, gz3, D2, M2, ⟨ca, ck, car, csh, chn, cga, cE, cS, cH, cZ, cQ, cA, cl, cr⟩, hD2, hM2⟩ := hQ3
  have N3 := Fr.app N2 N3q
  obtain rfl := own_sh62 chn
  have cf : ∃ j, j < 4 ∧ own_K car j = own_FREE := own_cnt_free (by rw [cr.2.2.2]; decide)
  have ne4 : cp ≠ ca := ne_arrV cE (hw _ (own_w 1 rfl)) cA
  obtain ⟨cq5, kz5, q5a, q5b, q5c⟩ := isOf hZ rfl cE
  obtain ⟨_, _, ⟨T5, Lq5, kq5, nq5⟩, -, X5, ⟨Lc5, hQ5, lq5, yq5, zq5⟩, st5⟩ := X3.virtualBack hx (y := (⟨"com/example/pricewright/pricewright/core/LongSumTable", "sortedKeys", "()[J"⟩ : MethodName)) (z := (⟨"com/example/pricewright/pricewright/core/LongSumTable", "sortedKeys", "()[J"⟩ : MethodName)) hown (mvT hZ (hw _ (own_w 66 rfl))) (mvT hZ (hw _ (own_w 67 rfl))) (notFace_of_selects (args := #[]) (mvT hZ (hw _ (own_w 69 rfl)))) (mvT hZ (hw _ (own_w 69 rfl))) (mvT hZ (hw _ (own_w 68 rfl))) (by decide) (backOf (W := 0) (rmK4_0 l Z a0 hw [] cp ca ck car D2 M2 T3.heap n0 Z3 cE cS cH cZ cQ cA ne4 gcp cr) hZ (hw _ (own_w 70 rfl)) (hw _ (own_w 2 rfl)) (by decide) (by decide)) q5a q5c (g := (mkF m 317 #[.val (.long q1), .second, .val (.long q2), .second, .val (.long q3), .second, .val (.int p4), .val (.int p5), .val (.int p6), .val (.int (0 : Int32)), .val (.long k1), .second, .val (.long v1), .second, .val (.long k2), .second, .val (.long v2), .second, .val (.long k3), .second, .val (.long v3), .second, .val (.ref b1o), .val (.long ff), .second, .val (.long gg), .second, .val (.ref cp), .val (.long (k1 * ff)), .second, .val (.long (k2 * ff)), .second, .val (.long (k3 * ff)), .second, .val (.int (1 : Int32)), .unset] [(.ref cp)])) rfl (by rw [hml]; rfl) (Steps.refl _) (argsL := []) (rest := []) (lenOf pd_12 rfl) rfl (by show 2 * 0 + _ ≤ _; exact Nat.le_of_eq rfl) (hb hby at_317) (fun _ _ => ⟨rfl, rfl, (by decide : 4 + 1 ≤ _), (by decide : 24 + 0 ≤ _)⟩)
  dsimp only [Pt.U, Pt.locs, Pt.cells, Pt.slots] at X5 lq5 yq5 zq5 st5 hQ5
  subst lq5 yq5 zq5
  obtain ⟨sa5, sk5, rfl, N5q, KC5, gs5, gz5, E5', FS5', FH5', FZ5', FQ5', AS5, str5, mem5⟩ := hQ5
  have N5 := Fr.app N3 N5q
  have Z5 : n0 ≤ T5.heap.size := Nat.le_trans Z3 KC5.1
  obtain ⟨cl6, Ar6, qk6, Sz6, Nn6, Hh6, Gg6⟩ := id (AS5)
  refine ⟨T5, _, #[.val (.long q1), .second, .val (.long q2), .second, .val (.long q3), .second, .val (.int p4), .val (.int p5), .val (.int p6), .val (.int (0 : Int32)), .val (.long k1), .second, .val (.long v1), .second, .val (.long k2), .second, .val (.long v2), .second, .val (.long k3), .second, .val (.long v3), .second, .val (.ref b1o), .val (.long ff), .second, .val (.long gg), .second, .val (.ref cp), .val (.long (k1 * ff)), .second, .val (.long (k2 * ff)), .second, .val (.long (k3 * ff)), .second, .val (.int (1 : Int32)), .val (.ref sa5)], X5, N5, fun target kt => ?_⟩
  refine st1 _ ?_
  refine XS.dup X1.here hx rfl (hb hby at_104) rfl rfl ?_
  refine st2.trans ?_
  refine XS.astore X2.here hx rfl (hb hby at_108) rfl rfl (l' := #[.val (.long q1), .second, .val (.long q2), .second, .val (.long q3), .second, .val (.int p4), .val (.int p5), .val (.int p6), .val (.int (0 : Int32)), .val (.long k1), .second, .val (.long v1), .second, .val (.long k2), .second, .val (.long v2), .second, .val (.long k3), .second, .val (.long v3), .second, .val (.ref b1o), .unset, .unset, .unset, .unset, .unset, .unset, .unset, .unset, .unset, .unset, .unset, .unset, .unset]) rfl ?_
  refine XS.iload X2.here hx rfl (hb hby at_110) rfl ?_
  refine XS.iconst X2.here hx rfl (hb hby at_112) ?_
  refine XS.icmpYes X2.here hx rfl (pc0 := 113) (pc' := 125) rfl (hb hby at_113) rfl (tlt (by decide)).1 (by decide) (by decide) ?_
  refine XS.iload X2.here hx rfl (hb hby at_125) rfl ?_
  refine XS.iconst X2.here hx rfl (hb hby at_127) ?_
  refine XS.icmpYes X2.here hx rfl (pc0 := 128) (pc' := 140) rfl (hb hby at_128) rfl (tlt (by decide)).1 (by decide) (by decide) ?_
  refine XS.iload X2.here hx rfl (hb hby at_140) rfl ?_
  refine XS.iconst X2.here hx rfl (hb hby at_142) ?_
  refine XS.icmpYes X2.here hx rfl (pc0 := 143) (pc' := 155) rfl (hb hby at_143) rfl (tlt (by decide)).1 (by decide) (by decide) ?_
  refine XS.iload X2.here hx rfl (hb hby at_155) rfl ?_
  refine XS.i2l X2.here hx rfl (hb hby at_157) rfl ?_
  refine XS.lstore X2.here hx rfl (hb hby at_158) rfl (l' := #[.val (.long q1), .second, .val (.long q2), .second, .val (.long q3), .second, .val (.int p4), .val (.int p5), .val (.int p6), .val (.int (0 : Int32)), .val (.long k1), .second, .val (.long v1), .second, .val (.long k2), .second, .val (.long v2), .second, .val (.long k3), .second, .val (.long v3), .second, .val (.ref b1o), .val (.long (p4.toInt64)), .second, .unset, .unset, .unset, .unset, .unset, .unset, .unset, .unset, .unset, .unset, .unset]) rfl ?_
  show Steps p.tables e below (T2.setTop (mkF m 160 #[.val (.long q1), .second, .val (.long q2), .second, .val (.long q3), .second, .val (.int p4), .val (.int p5), .val (.int p6), .val (.int (0 : Int32)), .val (.long k1), .second, .val (.long v1), .second, .val (.long k2), .second, .val (.long v2), .second, .val (.long k3), .second, .val (.long v3), .second, .val (.ref b1o), .val (.long (p4.toInt64)), .second, .unset, .unset, .unset, .unset, .unset, .unset, .unset, .unset, .unset, .unset, .unset] [])) _
  rw [← hff]
  show Steps p.tables e below (T2.setTop (mkF m 160 #[.val (.long q1), .second, .val (.long q2), .second, .val (.long q3), .second, .val (.int p4), .val (.int p5), .val (.int p6), .val (.int (0 : Int32)), .val (.long k1), .second, .val (.long v1), .second, .val (.long k2), .second, .val (.long v2), .second, .val (.long k3), .second, .val (.long v3), .second, .val (.ref b1o), .val (.long ff), .second, .unset, .unset, .unset, .unset, .unset, .unset, .unset, .unset, .unset, .unset, .unset] [])) _
  refine XS.iload X2.here hx rfl (hb hby at_160) rfl ?_
  refine XS.i2l X2.here hx rfl (hb hby at_162) rfl ?_
  refine XS.lstore X2.here hx rfl (hb hby at_163) rfl (l' := #[.val (.long q1), .second, .val (.long q2), .second, .val (.long q3), .second, .val (.int p4), .val (.int p5), .val (.int p6), .val (.int (0 : Int32)), .val (.long k1), .second, .val (.long v1), .second, .val (.long k2), .second, .val (.long v2), .second, .val (.long k3), .second, .val (.long v3), .second, .val (.ref b1o), .val (.long ff), .second, .val (.long (p5.toInt64)), .second, .unset, .unset, .unset, .unset, .unset, .unset, .unset, .unset, .unset]) rfl ?_
  show Steps p.tables e below (T2.setTop (mkF m 165 #[.val (.long q1), .second, .val (.long q2), .second, .val (.long q3), .second, .val (.int p4), .val (.int p5), .val (.int p6), .val (.int (0 : Int32)), .val (.long k1), .second, .val (.long v1), .second, .val (.long k2), .second, .val (.long v2), .second, .val (.long k3), .second, .val (.long v3), .second, .val (.ref b1o), .val (.long ff), .second, .val (.long (p5.toInt64)), .second, .unset, .unset, .unset, .unset, .unset, .unset, .unset, .unset, .unset] [])) _
  rw [← hgg]
  show Steps p.tables e below (T2.setTop (mkF m 165 #[.val (.long q1), .second, .val (.long q2), .second, .val (.long q3), .second, .val (.int p4), .val (.int p5), .val (.int p6), .val (.int (0 : Int32)), .val (.long k1), .second, .val (.long v1), .second, .val (.long k2), .second, .val (.long v2), .second, .val (.long k3), .second, .val (.long v3), .second, .val (.ref b1o), .val (.long ff), .second, .val (.long gg), .second, .unset, .unset, .unset, .unset, .unset, .unset, .unset, .unset, .unset] [])) _
  refine XS.aload X2.here hx rfl (hb hby at_165) rfl rfl ?_
  refine XS.lload X2.here hx rfl (hb hby at_167) rfl ?_
  refine XS.lload X2.here hx rfl (hb hby at_169) rfl ?_
  refine st3.trans ?_
  refine XS.astore X3.here hx rfl (hb hby at_174) rfl rfl (l' := #[.val (.long q1), .second, .val (.long q2), .second, .val (.long q3), .second, .val (.int p4), .val (.int p5), .val (.int p6), .val (.int (0 : Int32)), .val (.long k1), .second, .val (.long v1), .second, .val (.long k2), .second, .val (.long v2), .second, .val (.long k3), .second, .val (.long v3), .second, .val (.ref b1o), .val (.long ff), .second, .val (.long gg), .second, .val (.ref cp), .unset, .unset, .unset, .unset, .unset, .unset, .unset, .unset]) rfl ?_
  refine XS.lload X3.here hx rfl (hb hby at_176) rfl ?_
  refine XS.lload X3.here hx rfl (hb hby at_178) rfl ?_
  refine XS.lmul X3.here hx rfl (hb hby at_180) rfl ?_
  refine XS.lstore X3.here hx rfl (hb hby at_181) rfl (l' := #[.val (.long q1), .second, .val (.long q2), .second, .val (.long q3), .second, .val (.int p4), .val (.int p5), .val (.int p6), .val (.int (0 : Int32)), .val (.long k1), .second, .val (.long v1), .second, .val (.long k2), .second, .val (.long v2), .second, .val (.long k3), .second, .val (.long v3), .second, .val (.ref b1o), .val (.long ff), .second, .val (.long gg), .second, .val (.ref cp), .val (.long (k1 * ff)), .second, .unset, .unset, .unset, .unset, .unset, .unset]) rfl ?_
  refine XS.lload X3.here hx rfl (hb hby at_183) rfl ?_
  refine XS.lload X3.here hx rfl (hb hby at_185) rfl ?_
  refine XS.lmul X3.here hx rfl (hb hby at_187) rfl ?_
  refine XS.lstore X3.here hx rfl (hb hby at_188) rfl (l' := #[.val (.long q1), .second, .val (.long q2), .second, .val (.long q3), .second, .val (.int p4), .val (.int p5), .val (.int p6), .val (.int (0 : Int32)), .val (.long k1), .second, .val (.long v1), .second, .val (.long k2), .second, .val (.long v2), .second, .val (.long k3), .second, .val (.long v3), .second, .val (.ref b1o), .val (.long ff), .second, .val (.long gg), .second, .val (.ref cp), .val (.long (k1 * ff)), .second, .val (.long (k2 * ff)), .second, .unset, .unset, .unset, .unset]) rfl ?_
  refine XS.lload X3.here hx rfl (hb hby at_190) rfl ?_
  refine XS.lload X3.here hx rfl (hb hby at_192) rfl ?_
  refine XS.lmul X3.here hx rfl (hb hby at_194) rfl ?_
  refine XS.lstore X3.here hx rfl (hb hby at_195) rfl (l' := #[.val (.long q1), .second, .val (.long q2), .second, .val (.long q3), .second, .val (.int p4), .val (.int p5), .val (.int p6), .val (.int (0 : Int32)), .val (.long k1), .second, .val (.long v1), .second, .val (.long k2), .second, .val (.long v2), .second, .val (.long k3), .second, .val (.long v3), .second, .val (.ref b1o), .val (.long ff), .second, .val (.long gg), .second, .val (.ref cp), .val (.long (k1 * ff)), .second, .val (.long (k2 * ff)), .second, .val (.long (k3 * ff)), .second, .unset, .unset]) rfl ?_
  refine XS.iconst X3.here hx rfl (hb hby at_197) ?_
  refine XS.istore X3.here hx rfl (hb hby at_198) rfl (l' := #[.val (.long q1), .second, .val (.long q2), .second, .val (.long q3), .second, .val (.int p4), .val (.int p5), .val (.int p6), .val (.int (0 : Int32)), .val (.long k1), .second, .val (.long v1), .second, .val (.long k2), .second, .val (.long v2), .second, .val (.long k3), .second, .val (.long v3), .second, .val (.ref b1o), .val (.long ff), .second, .val (.long gg), .second, .val (.ref cp), .val (.long (k1 * ff)), .second, .val (.long (k2 * ff)), .second, .val (.long (k3 * ff)), .second, .val (.int (1 : Int32)), .unset]) rfl ?_
  refine XS.iload X3.here hx rfl (hb hby at_200) rfl ?_
  refine XS.iconst X3.here hx rfl (hb hby at_202) ?_
  refine XS.icmpYes X3.here hx rfl (pc0 := 203) (pc' := 247) rfl (hb hby at_203) rfl (tlt (by decide)).1 (by decide) (by decide) ?_
  refine XS.iload X3.here hx rfl (hb hby at_247) rfl ?_
  refine XS.iconst X3.here hx rfl (hb hby at_249) ?_
  refine XS.icmpYes X3.here hx rfl (pc0 := 250) (pc' := 281) rfl (hb hby at_250) rfl (tlt (by decide)).1 (by decide) (by decide) ?_
  refine XS.iload X3.here hx rfl (hb hby at_281) rfl ?_
  refine XS.iconst X3.here hx rfl (hb hby at_283) ?_
  refine XS.icmpYes X3.here hx rfl (pc0 := 284) (pc' := 315) rfl (hb hby at_284) rfl (tlt (by decide)).1 (by decide) (by decide) ?_
  refine XS.aload X3.here hx rfl (hb hby at_315) rfl rfl ?_
  refine st5.trans ?_
  refine XS.astore X5.here hx rfl (hb hby at_320) rfl rfl (l' := #[.val (.long q1), .second, .val (.long q2), .second, .val (.long q3), .second, .val (.int p4), .val (.int p5), .val (.int p6), .val (.int (0 : Int32)), .val (.long k1), .second, .val (.long v1), .second, .val (.long k2), .second, .val (.long v2), .second, .val (.long k3), .second, .val (.long v3), .second, .val (.ref b1o), .val (.long ff), .second, .val (.long gg), .second, .val (.ref cp), .val (.long (k1 * ff)), .second, .val (.long (k2 * ff)), .second, .val (.long (k3 * ff)), .second, .val (.int (1 : Int32)), .val (.ref sa5)]) rfl ?_
  refine XS.aload X5.here hx rfl (hb hby at_322) rfl rfl ?_
  refine X5.arraylength hx Ar6.1 (State.isArrayOf_alike hZ.alike Ar6.2.1) (g := (mkF m 324 #[.val (.long q1), .second, .val (.long q2), .second, .val (.long q3), .second, .val (.int p4), .val (.int p5), .val (.int p6), .val (.int (0 : Int32)), .val (.long k1), .second, .val (.long v1), .second, .val (.long k2), .second, .val (.long v2), .second, .val (.long k3), .second, .val (.long v3), .second, .val (.ref b1o), .val (.long ff), .second, .val (.long gg), .second, .val (.ref cp), .val (.long (k1 * ff)), .second, .val (.long (k2 * ff)), .second, .val (.long (k3 * ff)), .second, .val (.int (1 : Int32)), .val (.ref sa5)] [(.ref sa5)])) rfl rfl (hb hby at_324) _ ?_
  rw [len_of Sz6 Nn6]
  show Steps p.tables e below (T5.setTop (mkF m 325 #[.val (.long q1), .second, .val (.long q2), .second, .val (.long q3), .second, .val (.int p4), .val (.int p5), .val (.int p6), .val (.int (0 : Int32)), .val (.long k1), .second, .val (.long v1), .second, .val (.long k2), .second, .val (.long v2), .second, .val (.long k3), .second, .val (.long v3), .second, .val (.ref b1o), .val (.long ff), .second, .val (.long gg), .second, .val (.ref cp), .val (.long (k1 * ff)), .second, .val (.long (k2 * ff)), .second, .val (.long (k3 * ff)), .second, .val (.int (1 : Int32)), .val (.ref sa5)] [(.int (0 : Int32))])) _
  refine XS.iload X5.here hx rfl (hb hby at_325) rfl ?_
  refine XS.icmpYes X5.here hx rfl (pc0 := 327) (pc' := 332) rfl (hb hby at_327) rfl (teq (by decide)).1 (by decide) (by decide) ?_
  refine XS.iload X5.here hx rfl (hb hby at_332) rfl ?_
  refine XS.iconst X5.here hx rfl (hb hby at_334) ?_
  refine XS.icmpYes X5.here hx rfl (pc0 := 335) (pc' := 368) rfl (hb hby at_335) rfl (tlt (by decide)).1 (by decide) (by decide) ?_
  refine XS.iload X5.here hx rfl (hb hby at_368) rfl ?_
  refine XS.iconst X5.here hx rfl (hb hby at_370) ?_
  refine XS.icmpYes X5.here hx rfl (pc0 := 371) (pc' := 416) rfl (hb hby at_371) rfl (tlt (by decide)).1 (by decide) (by decide) ?_
  refine XS.iload X5.here hx rfl (hb hby at_416) rfl ?_
  refine XS.iconst X5.here hx rfl (hb hby at_418) ?_
  refine XS.icmpYes X5.here hx rfl (pc0 := 419) (pc' := 464) rfl (hb hby at_419) rfl (tlt (by decide)).1 (by decide) (by decide) ?_
  refine XS.iload X5.here hx rfl (hb hby at_464) rfl ?_
  exact kt
theorem pd_13 : parseMethodDescriptor "(JIJJJ)Z" = some ⟨[.long, .int, .long, .long, .long], some .boolean⟩ := by decide +kernel
set_option maxRecDepth 65536 in
set_option maxHeartbeats 40000000 in
theorem own_tl1 {p : Program} {l : Launch} {e : Env} {s : State} {m : MethodId} {below : List Frame} {meth : Method} {c : Code} {T0 : State} {L0 : List Loc} {Z : State} {a0 : Array Value} {h0 : Heap} {n0 : Nat} {q1 q2 q3 k1 v1 k2 v2 k3 v3 : Int64} {p4 p5 p6 : Int32} (hx : p.tables.exec = Jvm.exec) (hZ : Z.Warmed39 s.vm) (hw : ∀ d ∈ tables_1, d.before a0 Z = true) (hby : c.code = code) (hml : c.maxLocals = 36) (hown : s.vm.findClass "com/example/pricewright/pricewright/core/LongSumTableScaledPinLaw" = some m.cls) (X0 : Stand p l e room_1 s m #[.long q1, .long q2, .long q3, .int p4, .int p5, .int p6] below meth c T0 L0 0 0) (e0 : T0.heap = h0) (N0 : Fr n0 L0) (Z0 : n0 ≤ h0.size) (hB1 : own_B k1) (hB2 : own_B k2) (hB3 : own_B k3) (hC1 : own_B v1) (hC2 : own_B v2) (hC3 : own_B v3) :
    ∃ (T' : State) (L' : List Loc) (Ls : Array Slot), Stand p l e room_1 s m #[.long q1, .long q2, .long q3, .int p4, .int p5, .int p6] below meth c T' L' (7) (45) ∧ Fr n0 L' ∧ ∀ target, Steps p.tables e below (T'.setTop (mkF m 466 Ls [.int (1 : Int32)])) target → Steps p.tables e below (T0.setTop (mkF m 101 #[.val (.long q1), .second, .val (.long q2), .second, .val (.long q3), .second, .val (.int p4), .val (.int p5), .val (.int p6), .val (.int (1 : Int32)), .val (.long k1), .second, .val (.long v1), .second, .val (.long k2), .second, .val (.long v2), .second, .val (.long k3), .second, .val (.long v3), .second, .unset, .unset, .unset, .unset, .unset, .unset, .unset, .unset, .unset, .unset, .unset, .unset, .unset, .unset] [])) target := by
  obtain ⟨T1, h1, X1, e1, E1, A1, D1, -, st1⟩ := newO X0 hx hZ hown (hw _ (own_w 0 rfl)) (hw _ (own_w 1 rfl)) (hw _ (own_w 2 rfl)) e0 (g := (mkF m 101 #[.val (.long q1), .second, .val (.long q2), .second, .val (.long q3), .second, .val (.int p4), .val (.int p5), .val (.int p6), .val (.int (1 : Int32)), .val (.long k1), .second, .val (.long v1), .second, .val (.long k2), .second, .val (.long v2), .second, .val (.long k3), .second, .val (.long v3), .second, .unset, .unset, .unset, .unset, .unset, .unset, .unset, .unset, .unset, .unset, .unset, .unset, .unset, .unset] [])) rfl (hb hby at_101) (by decide) (by decide)
  obtain ⟨b1o, g1⟩ : ∃ z, z = h0.size := ⟨_, rfl⟩
  have b1 : n0 ≤ b1o := Nat.le_trans Z0 (Nat.le_of_eq g1.symm)
  rw [← g1] at A1 D1 st1
  have Z1 : n0 ≤ h1.size := Nat.le_trans Z0 E1.1
  have F1_14 : Fld Z h1 b1o "com/example/pricewright/pricewright/core/LongSumTable" "slots" "[J" .null := D1 (Or.inl (hw _ (own_w 14 rfl))) (ty := (.array .long)) (by decide)
  have F1_26 : Fld Z h1 b1o "com/example/pricewright/pricewright/core/LongSumTable" "shift" "I" (.int (0 : Int32)) := D1 (Or.inl (hw _ (own_w 26 rfl))) (ty := .int) (by decide)
  have F1_41 : Fld Z h1 b1o "com/example/pricewright/pricewright/core/LongSumTable" "sorted" "[J" .null := D1 (Or.inl (hw _ (own_w 41 rfl))) (ty := (.array .long)) (by decide)
  have F1_43 : Fld Z h1 b1o "com/example/pricewright/pricewright/core/LongSumTable" "size" "I" (.int (0 : Int32)) := D1 (Or.inl (hw _ (own_w 43 rfl))) (ty := .int) (by decide)
  obtain ⟨_, _, ⟨T2, Lq2, kq2, nq2⟩, -, X2, ⟨Lc2, hQ2, lq2, yq2, zq2⟩, st2⟩ := X1.specialBack hx (y := (⟨"com/example/pricewright/pricewright/core/LongSumTable", "<init>", "()V"⟩ : MethodName)) rfl hown (mvT hZ (hw _ (own_w 3 rfl))) (mvT hZ (hw _ (own_w 4 rfl))) (mvT hZ (hw _ (own_w 5 rfl))) (by decide) (backOf (W := 1) (rmI0 l Z a0 hw [] b1o  h1 n0 Z1 A1 F1_14 F1_26 F1_43 F1_41 b1) hZ (hw _ (own_w 5 rfl)) (hw _ (own_w 2 rfl)) (by decide) (by decide)) (g := (mkF m 105 #[.val (.long q1), .second, .val (.long q2), .second, .val (.long q3), .second, .val (.int p4), .val (.int p5), .val (.int p6), .val (.int (1 : Int32)), .val (.long k1), .second, .val (.long v1), .second, .val (.long k2), .second, .val (.long v2), .second, .val (.long k3), .second, .val (.long v3), .second, .unset, .unset, .unset, .unset, .unset, .unset, .unset, .unset, .unset, .unset, .unset, .unset, .unset, .unset] [(.ref b1o), (.ref b1o)])) rfl (by rw [hml]; rfl) (Steps.refl _) (a := b1o) (argsL := []) (rest := [(.ref b1o)]) (lenOf pd_10 rfl) rfl (by show 2 * 0 + _ ≤ _; exact Nat.le_of_eq rfl) (hb hby at_105) (fun _ _ => ⟨rfl, e1, (by decide : 1 + 1 ≤ _), (by decide : 4 + 8 ≤ _)⟩)
  dsimp only [Pt.U, Pt.locs, Pt.cells, Pt.slots] at X2 lq2 yq2 zq2 st2 hQ2
  subst lq2 yq2 zq2
  obtain ⟨rfl, N2q, KC2, u2⟩ := hQ2
  have N2 := Fr.app N0 N2q
  have Z2 : n0 ≤ T2.heap.size := Nat.le_trans Z1 KC2.1
  obtain ⟨sa2, sk2, ga2, gk2, EI2, FS2, FH2, FZ2, FQ2, AV2⟩ := id u2
  have net2 : b1o ≠ sa2 := ne_arrV (EI2) (hw _ (own_w 1 rfl)) AV2
  have rp2e := own_rep_empty (W := own_W own_new4) (hs := own_hs 4) own_new4K
  have fr2e : ∃ j, j < 4 ∧ own_K own_new4 j = own_FREE := ⟨0, by decide, own_new4K 0 (by decide)⟩
  obtain ⟨cq3, kz3, q3a, q3b, q3c⟩ := isOf hZ rfl EI2
  obtain ⟨_, _, ⟨T3, Lq3, kq3, nq3⟩, -, X3, ⟨Lc3, hQ3, lq3, yq3, zq3⟩, st3⟩ := X2.virtualBack hx (y := (⟨"com/example/pricewright/pricewright/core/LongSumTable", "add", "(JJ)V"⟩ : MethodName)) (z := (⟨"com/example/pricewright/pricewright/core/LongSumTable", "add", "(JJ)V"⟩ : MethodName)) hown (mvT hZ (hw _ (own_w 27 rfl))) (mvT hZ (hw _ (own_w 28 rfl))) (notFace_of_selects (args := #[]) (mvT hZ (hw _ (own_w 30 rfl)))) (mvT hZ (hw _ (own_w 30 rfl))) (mvT hZ (hw _ (own_w 29 rfl))) (by decide) (backOf (W := 0) (rmA l Z a0 hw [] b1o k1 v1 sa2 sk2 own_new4 (fun _ => False) (fun _ => 0) (0) .null T2.heap n0 Z2 EI2 FS2 FH2 FZ2 FQ2 AV2 (rfl : own_new4.length = 2 * 4) net2 b1 ga2 rp2e (Nat.zero_le 2) (own_Bne hB1) (fun h => h.elim)) hZ (hw _ (own_w 31 rfl)) (hw _ (own_w 2 rfl)) (by decide) (by decide)) q3a q3c (g := (mkF m 122 #[.val (.long q1), .second, .val (.long q2), .second, .val (.long q3), .second, .val (.int p4), .val (.int p5), .val (.int p6), .val (.int (1 : Int32)), .val (.long k1), .second, .val (.long v1), .second, .val (.long k2), .second, .val (.long v2), .second, .val (.long k3), .second, .val (.long v3), .second, .val (.ref b1o), .unset, .unset, .unset, .unset, .unset, .unset, .unset, .unset, .unset, .unset, .unset, .unset, .unset] [(.long v1), (.long k1), (.ref b1o)])) rfl (by rw [hml]; rfl) (Steps.refl _) (argsL := [(.long k1), (.long v1)]) (rest := []) (lenOf pd_3 rfl) rfl (by show 2 * 0 + _ ≤ _; exact Nat.le_of_eq rfl) (hb hby at_122) (fun _ _ => ⟨rfl, rfl, (by decide : 2 + 2 ≤ _), (by decide : 12 + 20 ≤ _)⟩)
  dsimp only [Pt.U, Pt.locs, Pt.cells, Pt.slots] at X3 lq3 yq3 zq3 st3 hQ3
  subst lq3 yq3 zq3
  obtain ⟨rfl, N3q, Z3, KA3, nn3, sz3, so3, D3, M3, hD3, hM3, ⟨ta3, tk3, ta3r, ts3, hn3, tg3, tE3, tS3, tH3, tZ3, tQ3, tA3, tl3, tr3⟩, hc3, hl3, hy3, ho3⟩ := hQ3
  have N3 := Fr.app N2 N3q
  obtain ⟨rfl, hz3⟩ : nn3 = 4 ∧ sz3 ≤ 2 := by omega
  obtain rfl := own_sh62 hn3
  have tf3 : ∃ j, j < 4 ∧ own_K ta3r j = own_FREE := own_cnt_free (by rw [tr3.2.2.2]; omega)
  have ne5 : b1o ≠ ta3 := ne_arrV tE3 (hw _ (own_w 1 rfl)) tA3
  obtain ⟨hz3', hso3'⟩ := ho3 (fun h => h.elim)
  subst hz3' hso3'
  obtain ⟨ff, hff⟩ : ∃ z : Int64, z = (p4.toInt64) := ⟨_, rfl⟩
  have hBf : own_B ff := by rw [hff]; exact own_Bi p4
  obtain ⟨gg, hgg⟩ : ∃ z : Int64, z = (p5.toInt64) := ⟨_, rfl⟩
  have hBg : own_B gg := by rw [hgg]; exact own_Bi p5
  have hDs : ∀ x : Int64, D3 x ↔ (x = k1) := fun x => by simp [hD3, or_assoc]
  have hv1 : M3 k1 = v1 := by simp [hM3]
  have hd1 : D3 k1 := (hDs k1).mpr (by simp)
  have hbD : ∀ x : Int64, D3 x → own_B x ∧ own_B (M3 x) := fun x w => by
    rcases (hDs x).mp w with e1
    · rw [e1]; exact ⟨hB1, by rw [hv1]; exact hC1⟩
  obtain ⟨cq6, kz6, q6a, q6b, q6c⟩ := isOf hZ rfl tE3
  obtain ⟨_, _, ⟨T6, Lq6, kq6, nq6⟩, -, X6, ⟨Lc6, hQ6, lq6, yq6, zq6⟩, st6⟩ := X3.virtualBack hx (y := (⟨"com/example/pricewright/pricewright/core/LongSumTable", "scaled", "(JJ)Lcom/example/pricewright/pricewright/core/LongSumTable;"⟩ : MethodName)) (z := (⟨"com/example/pricewright/pricewright/core/LongSumTable", "scaled", "(JJ)Lcom/example/pricewright/pricewright/core/LongSumTable;"⟩ : MethodName)) hown (mvT hZ (hw _ (own_w 44 rfl))) (mvT hZ (hw _ (own_w 45 rfl))) (notFace_of_selects (args := #[]) (mvT hZ (hw _ (own_w 47 rfl)))) (mvT hZ (hw _ (own_w 47 rfl))) (mvT hZ (hw _ (own_w 46 rfl))) (by decide) (backOf (W := 0) (rmC4 l Z a0 hw [] b1o ff gg ta3 tk3 ta3r D3 M3 (1) T3.heap n0 Z3 tE3 tS3 tZ3 tA3 ne5 tr3 hBf hBg hbD (fun x y w u _ => ((hDs x).mp w).trans ((hDs y).mp u).symm)) hZ (hw _ (own_w 48 rfl)) (hw _ (own_w 2 rfl)) (by decide) (by decide)) q6a q6c (g := (mkF m 171 #[.val (.long q1), .second, .val (.long q2), .second, .val (.long q3), .second, .val (.int p4), .val (.int p5), .val (.int p6), .val (.int (1 : Int32)), .val (.long k1), .second, .val (.long v1), .second, .val (.long k2), .second, .val (.long v2), .second, .val (.long k3), .second, .val (.long v3), .second, .val (.ref b1o), .val (.long ff), .second, .val (.long gg), .second, .unset, .unset, .unset, .unset, .unset, .unset, .unset, .unset, .unset] [(.long gg), (.long ff), (.ref b1o)])) rfl (by rw [hml]; rfl) (Steps.refl _) (argsL := [(.long ff), (.long gg)]) (rest := []) (lenOf pd_11 rfl) rfl (by show 2 * 0 + _ ≤ _; exact Nat.le_of_eq rfl) (hb hby at_171) (fun _ _ => ⟨rfl, rfl, (by decide : 4 + 2 ≤ _), (by decide : 32 + 12 ≤ _)⟩)
  dsimp only [Pt.U, Pt.locs, Pt.cells, Pt.slots] at X6 lq6 yq6 zq6 st6 hQ6
  subst lq6 yq6 zq6
  obtain ⟨cp, rfl, N6q, Z6, KC6, gcp, gz6, D2, M2, ⟨ca, ck, car, csh, chn, cga, cE, cS, cH, cZ, cQ, cA, cl, cr⟩, hD2, hM2⟩ := hQ6
  have N6 := Fr.app N3 N6q
  obtain rfl := own_sh62 chn
  have cf : ∃ j, j < 4 ∧ own_K car j = own_FREE := own_cnt_free (by rw [cr.2.2.2]; decide)
  have ne7 : cp ≠ ca := ne_arrV cE (hw _ (own_w 1 rfl)) cA
  have hE : ∀ x, D2 x → (x = k1 * ff) := fun x w => by
    obtain ⟨y, u, e⟩ := (hD2 x).mp w
    rcases (hDs y).mp u with e1 <;> rw [← e, e1] <;> simp
  have hm1 : M2 (k1 * ff) = v1 * gg := by rw [hM2 _ hd1, hv1]
  obtain ⟨cq8, kz8, q8a, q8b, q8c⟩ := isOf hZ rfl cE
  obtain ⟨_, _, ⟨T8, Lq8, kq8, nq8⟩, -, X8, ⟨Lc8, hQ8, lq8, yq8, zq8⟩, st8⟩ := X6.virtualBack hx (y := (⟨"com/example/pricewright/pricewright/core/LongSumTable", "get", "(J)J"⟩ : MethodName)) (z := (⟨"com/example/pricewright/pricewright/core/LongSumTable", "get", "(J)J"⟩ : MethodName)) hown (mvT hZ (hw _ (own_w 61 rfl))) (mvT hZ (hw _ (own_w 62 rfl))) (notFace_of_selects (args := #[]) (mvT hZ (hw _ (own_w 64 rfl)))) (mvT hZ (hw _ (own_w 64 rfl))) (mvT hZ (hw _ (own_w 63 rfl))) (by decide) (backOf (W := 0) (rmG l Z a0 hw [] cp (k1 * ff) ca ck (car) 4 (62 : Int32) T6.heap n0 Z6 (Or.inl ⟨rfl, rfl⟩) cE cS cH cA cf) hZ (hw _ (own_w 65 rfl)) (hw _ (own_w 2 rfl)) (by decide) (by decide)) q8a q8c (g := (mkF m 215 #[.val (.long q1), .second, .val (.long q2), .second, .val (.long q3), .second, .val (.int p4), .val (.int p5), .val (.int p6), .val (.int (1 : Int32)), .val (.long k1), .second, .val (.long v1), .second, .val (.long k2), .second, .val (.long v2), .second, .val (.long k3), .second, .val (.long v3), .second, .val (.ref b1o), .val (.long ff), .second, .val (.long gg), .second, .val (.ref cp), .val (.long (k1 * ff)), .second, .val (.long (k2 * ff)), .second, .val (.long (k3 * ff)), .second, .val (.int (1 : Int32)), .unset] [(.long (k1 * ff)), (.ref cp)])) rfl (by rw [hml]; rfl) (Steps.refl _) (argsL := [(.long (k1 * ff))]) (rest := []) (lenOf pd_4 rfl) rfl (by show 2 * 0 + _ ≤ _; exact Nat.le_of_eq rfl) (hb hby at_215) (fun _ _ => ⟨rfl, rfl, (by decide : 6 + 0 ≤ _), (by decide : 44 + 0 ≤ _)⟩)
  dsimp only [Pt.U, Pt.locs, Pt.cells, Pt.slots] at X8 lq8 yq8 zq8 st8 hQ8
  subst lq8 yq8 zq8
  obtain ⟨r8, hr8, rfl, N8q, e8⟩ := hQ8
  have N8 := Fr.app N6 N8q
  obtain ⟨ig8, hig8, Pg8, hv8⟩ := hr8
  have hg8 : r8 = v1 * gg := by rw [hv8, ← hm1]; exact own_rep_get cr hig8 (own_mulF hB1 hBf) Pg8
  have f10 := (tE3.keep KC6)
  have f11 := (tS3.keep KC6 nin0)
  have f12 := (tH3.keep KC6 nin0)
  have f13 := (tA3.keep KC6 nin0)
  obtain ⟨cq9, kz9, q9a, q9b, q9c⟩ := isOf hZ e8 f10
  obtain ⟨_, _, ⟨T9, Lq9, kq9, nq9⟩, -, X9, ⟨Lc9, hQ9, lq9, yq9, zq9⟩, st9⟩ := X8.virtualBack hx (y := (⟨"com/example/pricewright/pricewright/core/LongSumTable", "get", "(J)J"⟩ : MethodName)) (z := (⟨"com/example/pricewright/pricewright/core/LongSumTable", "get", "(J)J"⟩ : MethodName)) hown (mvT hZ (hw _ (own_w 61 rfl))) (mvT hZ (hw _ (own_w 62 rfl))) (notFace_of_selects (args := #[]) (mvT hZ (hw _ (own_w 64 rfl)))) (mvT hZ (hw _ (own_w 64 rfl))) (mvT hZ (hw _ (own_w 63 rfl))) (by decide) (backOf (W := 0) (rmG l Z a0 hw [] b1o k1 ta3 tk3 (ta3r) 4 (62 : Int32) T6.heap n0 Z6 (Or.inl ⟨rfl, rfl⟩) f10 f11 f12 f13 tf3) hZ (hw _ (own_w 65 rfl)) (hw _ (own_w 2 rfl)) (by decide) (by decide)) q9a q9c (g := (mkF m 231 #[.val (.long q1), .second, .val (.long q2), .second, .val (.long q3), .second, .val (.int p4), .val (.int p5), .val (.int p6), .val (.int (1 : Int32)), .val (.long k1), .second, .val (.long v1), .second, .val (.long k2), .second, .val (.long v2), .second, .val (.long k3), .second, .val (.long v3), .second, .val (.ref b1o), .val (.long ff), .second, .val (.long gg), .second, .val (.ref cp), .val (.long (k1 * ff)), .second, .val (.long (k2 * ff)), .second, .val (.long (k3 * ff)), .second, .val (.int (1 : Int32)), .unset] [(.long k1), (.ref b1o)])) rfl (by rw [hml]; rfl) (Steps.refl _) (argsL := [(.long k1)]) (rest := []) (lenOf pd_4 rfl) rfl (by show 2 * 0 + _ ≤ _; exact Nat.le_of_eq rfl) (hb hby at_231) (fun _ _ => ⟨rfl, e8, (by decide : 6 + 0 ≤ _), (by decide : 44 + 0 ≤ _)⟩)
  dsimp only [Pt.U, Pt.locs, Pt.cells, Pt.slots] at X9 lq9 yq9 zq9 st9 hQ9
  subst lq9 yq9 zq9
  obtain ⟨r9, hr9, rfl, N9q, e9⟩ := hQ9
  have N9 := Fr.app N8 N9q
  obtain ⟨ig9, hig9, Pg9, hv9⟩ := hr9
  have hg9 : r9 = v1 := by rw [hv9, ← hv1]; exact own_rep_get tr3 hig9 (own_Bne hB1) Pg9
  obtain ⟨cq14, kz14, q14a, q14b, q14c⟩ := isOf hZ e9 cE
  obtain ⟨_, _, ⟨T14, Lq14, kq14, nq14⟩, -, X14, ⟨Lc14, hQ14, lq14, yq14, zq14⟩, st14⟩ := X9.virtualBack hx (y := (⟨"com/example/pricewright/pricewright/core/LongSumTable", "sortedKeys", "()[J"⟩ : MethodName)) (z := (⟨"com/example/pricewright/pricewright/core/LongSumTable", "sortedKeys", "()[J"⟩ : MethodName)) hown (mvT hZ (hw _ (own_w 66 rfl))) (mvT hZ (hw _ (own_w 67 rfl))) (notFace_of_selects (args := #[]) (mvT hZ (hw _ (own_w 69 rfl)))) (mvT hZ (hw _ (own_w 69 rfl))) (mvT hZ (hw _ (own_w 68 rfl))) (by decide) (backOf (W := 0) (rmK4_1 l Z a0 hw [] cp ca ck car D2 M2 T6.heap n0 Z6 cE cS cH cZ cQ cA ne7 gcp cr) hZ (hw _ (own_w 70 rfl)) (hw _ (own_w 2 rfl)) (by decide) (by decide)) q14a q14c (g := (mkF m 317 #[.val (.long q1), .second, .val (.long q2), .second, .val (.long q3), .second, .val (.int p4), .val (.int p5), .val (.int p6), .val (.int (1 : Int32)), .val (.long k1), .second, .val (.long v1), .second, .val (.long k2), .second, .val (.long v2), .second, .val (.long k3), .second, .val (.long v3), .second, .val (.ref b1o), .val (.long ff), .second, .val (.long gg), .second, .val (.ref cp), .val (.long (k1 * ff)), .second, .val (.long (k2 * ff)), .second, .val (.long (k3 * ff)), .second, .val (.int (1 : Int32)), .unset] [(.ref cp)])) rfl (by rw [hml]; rfl) (Steps.refl _) (argsL := []) (rest := []) (lenOf pd_12 rfl) rfl (by show 2 * 0 + _ ≤ _; exact Nat.le_of_eq rfl) (hb hby at_317) (fun _ _ => ⟨rfl, e9, (by decide : 6 + 1 ≤ _), (by decide : 44 + 1 ≤ _)⟩)
  dsimp only [Pt.U, Pt.locs, Pt.cells, Pt.slots] at X14 lq14 yq14 zq14 st14 hQ14
  subst lq14 yq14 zq14
  obtain ⟨sa14, sk14, y14_0, rfl, N14q, KC14, gs14, gz14, E14', FS14', FH14', FZ14', FQ14', AS14, str14, mem14⟩ := hQ14
  have N14 := Fr.app N9 N14q
  have Z14 : n0 ≤ T14.heap.size := Nat.le_trans Z6 KC14.1
  obtain ⟨cl15, Ar15, qk15, Sz15, Nn15, Hh15, Gg15⟩ := id (AS14)
  obtain ⟨cl16, Ar16, qk16, Sz16, Nn16, Hh16, Gg16⟩ := id (AS14)
  have hin17 : ¬ ((0 : Int32) < 0 ∨ cl16.slots.size ≤ ((0 : Int32)).toNatClampNeg) := inb_of Sz16 ⟨by decide, by decide⟩
  have hat17 : cl16.slots[((0 : Int32)).toNatClampNeg]? = some (.long y14_0) := Has.at Hh16 hin17 rfl
  obtain ⟨_, _, ⟨T18, Lq18, kq18, nq18⟩, -, X18, ⟨Lc18, hQ18, lq18, yq18, zq18⟩, st18⟩ := Jvm.LawKit.callS X14 hx (y := (⟨"com/example/pricewright/pricewright/core/LongSumTableScaledPinLaw", "in", "(JIJJJ)Z"⟩ : MethodName)) hown (mvT hZ (hw _ (own_w 85 rfl))) (mvT hZ (hw _ (own_w 86 rfl))) (mvT hZ (hw _ (own_w 87 rfl))) (mvT hZ (hw _ (own_w 88 rfl))) (by decide) (backOf (W := 0) (rmin1 l Z a0 hw [] y14_0 (k1 * ff) (k2 * ff) (k3 * ff)  T14.heap n0 Z14 ) hZ (hw _ (own_w 88 rfl)) (hw _ (own_w 87 rfl)) (by decide) (by decide)) (g := (mkF m 355 #[.val (.long q1), .second, .val (.long q2), .second, .val (.long q3), .second, .val (.int p4), .val (.int p5), .val (.int p6), .val (.int (1 : Int32)), .val (.long k1), .second, .val (.long v1), .second, .val (.long k2), .second, .val (.long v2), .second, .val (.long k3), .second, .val (.long v3), .second, .val (.ref b1o), .val (.long ff), .second, .val (.long gg), .second, .val (.ref cp), .val (.long (k1 * ff)), .second, .val (.long (k2 * ff)), .second, .val (.long (k3 * ff)), .second, .val (.int (1 : Int32)), .val (.ref sa14)] [(.long (k3 * ff)), (.long (k2 * ff)), (.long (k1 * ff)), (.int (1 : Int32)), (.long y14_0)])) rfl (by rw [hml]; rfl) (argsL := [(.long y14_0), (.int (1 : Int32)), (.long (k1 * ff)), (.long (k2 * ff)), (.long (k3 * ff))]) (rest := []) (lenOf pd_13 rfl) rfl (by show 2 * 0 + _ ≤ _; exact Nat.le_of_eq rfl) (hb hby at_355) (fun _ _ => ⟨rfl, rfl, (by decide : 7 + 0 ≤ _), (by decide : 45 + 0 ≤ _)⟩)
  dsimp only [Pt.U, Pt.locs, Pt.cells, Pt.slots] at X18 lq18 yq18 zq18 st18 hQ18
  subst lq18 yq18 zq18
  obtain ⟨r18, hr18, rfl, N18q, e18⟩ := hQ18
  have N18 := Fr.app N14 N18q
  refine ⟨T18, _, #[.val (.long q1), .second, .val (.long q2), .second, .val (.long q3), .second, .val (.int p4), .val (.int p5), .val (.int p6), .val (.int (1 : Int32)), .val (.long k1), .second, .val (.long v1), .second, .val (.long k2), .second, .val (.long v2), .second, .val (.long k3), .second, .val (.long v3), .second, .val (.ref b1o), .val (.long ff), .second, .val (.long gg), .second, .val (.ref cp), .val (.long (k1 * ff)), .second, .val (.long (k2 * ff)), .second, .val (.long (k3 * ff)), .second, .val (.int (1 : Int32)), .val (.ref sa14)], X18, N18, fun target kt => ?_⟩
  refine st1 _ ?_
  refine XS.dup X1.here hx rfl (hb hby at_104) rfl rfl ?_
  refine st2.trans ?_
  refine XS.astore X2.here hx rfl (hb hby at_108) rfl rfl (l' := #[.val (.long q1), .second, .val (.long q2), .second, .val (.long q3), .second, .val (.int p4), .val (.int p5), .val (.int p6), .val (.int (1 : Int32)), .val (.long k1), .second, .val (.long v1), .second, .val (.long k2), .second, .val (.long v2), .second, .val (.long k3), .second, .val (.long v3), .second, .val (.ref b1o), .unset, .unset, .unset, .unset, .unset, .unset, .unset, .unset, .unset, .unset, .unset, .unset, .unset]) rfl ?_
  refine XS.iload X2.here hx rfl (hb hby at_110) rfl ?_
  refine XS.iconst X2.here hx rfl (hb hby at_112) ?_
  refine XS.icmpNo X2.here hx rfl (hb hby at_113) rfl (flt (by decide)).1 ?_
  refine XS.aload X2.here hx rfl (hb hby at_116) rfl rfl ?_
  refine XS.lload X2.here hx rfl (hb hby at_118) rfl ?_
  refine XS.lload X2.here hx rfl (hb hby at_120) rfl ?_
  refine st3.trans ?_
  refine XS.iload X3.here hx rfl (hb hby at_125) rfl ?_
  refine XS.iconst X3.here hx rfl (hb hby at_127) ?_
  refine XS.icmpYes X3.here hx rfl (pc0 := 128) (pc' := 140) rfl (hb hby at_128) rfl (tlt (by decide)).1 (by decide) (by decide) ?_
  refine XS.iload X3.here hx rfl (hb hby at_140) rfl ?_
  refine XS.iconst X3.here hx rfl (hb hby at_142) ?_
  refine XS.icmpYes X3.here hx rfl (pc0 := 143) (pc' := 155) rfl (hb hby at_143) rfl (tlt (by decide)).1 (by decide) (by decide) ?_
  refine XS.iload X3.here hx rfl (hb hby at_155) rfl ?_
  refine XS.i2l X3.here hx rfl (hb hby at_157) rfl ?_
  refine XS.lstore X3.here hx rfl (hb hby at_158) rfl (l' := #[.val (.long q1), .second, .val (.long q2), .second, .val (.long q3), .second, .val (.int p4), .val (.int p5), .val (.int p6), .val (.int (1 : Int32)), .val (.long k1), .second, .val (.long v1), .second, .val (.long k2), .second, .val (.long v2), .second, .val (.long k3), .second, .val (.long v3), .second, .val (.ref b1o), .val (.long (p4.toInt64)), .second, .unset, .unset, .unset, .unset, .unset, .unset, .unset, .unset, .unset, .unset, .unset]) rfl ?_
  show Steps p.tables e below (T3.setTop (mkF m 160 #[.val (.long q1), .second, .val (.long q2), .second, .val (.long q3), .second, .val (.int p4), .val (.int p5), .val (.int p6), .val (.int (1 : Int32)), .val (.long k1), .second, .val (.long v1), .second, .val (.long k2), .second, .val (.long v2), .second, .val (.long k3), .second, .val (.long v3), .second, .val (.ref b1o), .val (.long (p4.toInt64)), .second, .unset, .unset, .unset, .unset, .unset, .unset, .unset, .unset, .unset, .unset, .unset] [])) _
  rw [← hff]
  show Steps p.tables e below (T3.setTop (mkF m 160 #[.val (.long q1), .second, .val (.long q2), .second, .val (.long q3), .second, .val (.int p4), .val (.int p5), .val (.int p6), .val (.int (1 : Int32)), .val (.long k1), .second, .val (.long v1), .second, .val (.long k2), .second, .val (.long v2), .second, .val (.long k3), .second, .val (.long v3), .second, .val (.ref b1o), .val (.long ff), .second, .unset, .unset, .unset, .unset, .unset, .unset, .unset, .unset, .unset, .unset, .unset] [])) _
  refine XS.iload X3.here hx rfl (hb hby at_160) rfl ?_
  refine XS.i2l X3.here hx rfl (hb hby at_162) rfl ?_
  refine XS.lstore X3.here hx rfl (hb hby at_163) rfl (l' := #[.val (.long q1), .second, .val (.long q2), .second, .val (.long q3), .second, .val (.int p4), .val (.int p5), .val (.int p6), .val (.int (1 : Int32)), .val (.long k1), .second, .val (.long v1), .second, .val (.long k2), .second, .val (.long v2), .second, .val (.long k3), .second, .val (.long v3), .second, .val (.ref b1o), .val (.long ff), .second, .val (.long (p5.toInt64)), .second, .unset, .unset, .unset, .unset, .unset, .unset, .unset, .unset, .unset]) rfl ?_
  show Steps p.tables e below (T3.setTop (mkF m 165 #[.val (.long q1), .second, .val (.long q2), .second, .val (.long q3), .second, .val (.int p4), .val (.int p5), .val (.int p6), .val (.int (1 : Int32)), .val (.long k1), .second, .val (.long v1), .second, .val (.long k2), .second, .val (.long v2), .second, .val (.long k3), .second, .val (.long v3), .second, .val (.ref b1o), .val (.long ff), .second, .val (.long (p5.toInt64)), .second, .unset, .unset, .unset, .unset, .unset, .unset, .unset, .unset, .unset] [])) _
  rw [← hgg]
  show Steps p.tables e below (T3.setTop (mkF m 165 #[.val (.long q1), .second, .val (.long q2), .second, .val (.long q3), .second, .val (.int p4), .val (.int p5), .val (.int p6), .val (.int (1 : Int32)), .val (.long k1), .second, .val (.long v1), .second, .val (.long k2), .second, .val (.long v2), .second, .val (.long k3), .second, .val (.long v3), .second, .val (.ref b1o), .val (.long ff), .second, .val (.long gg), .second, .unset, .unset, .unset, .unset, .unset, .unset, .unset, .unset, .unset] [])) _
  refine XS.aload X3.here hx rfl (hb hby at_165) rfl rfl ?_
  refine XS.lload X3.here hx rfl (hb hby at_167) rfl ?_
  refine XS.lload X3.here hx rfl (hb hby at_169) rfl ?_
  refine st6.trans ?_
  refine XS.astore X6.here hx rfl (hb hby at_174) rfl rfl (l' := #[.val (.long q1), .second, .val (.long q2), .second, .val (.long q3), .second, .val (.int p4), .val (.int p5), .val (.int p6), .val (.int (1 : Int32)), .val (.long k1), .second, .val (.long v1), .second, .val (.long k2), .second, .val (.long v2), .second, .val (.long k3), .second, .val (.long v3), .second, .val (.ref b1o), .val (.long ff), .second, .val (.long gg), .second, .val (.ref cp), .unset, .unset, .unset, .unset, .unset, .unset, .unset, .unset]) rfl ?_
  refine XS.lload X6.here hx rfl (hb hby at_176) rfl ?_
  refine XS.lload X6.here hx rfl (hb hby at_178) rfl ?_
  refine XS.lmul X6.here hx rfl (hb hby at_180) rfl ?_
  refine XS.lstore X6.here hx rfl (hb hby at_181) rfl (l' := #[.val (.long q1), .second, .val (.long q2), .second, .val (.long q3), .second, .val (.int p4), .val (.int p5), .val (.int p6), .val (.int (1 : Int32)), .val (.long k1), .second, .val (.long v1), .second, .val (.long k2), .second, .val (.long v2), .second, .val (.long k3), .second, .val (.long v3), .second, .val (.ref b1o), .val (.long ff), .second, .val (.long gg), .second, .val (.ref cp), .val (.long (k1 * ff)), .second, .unset, .unset, .unset, .unset, .unset, .unset]) rfl ?_
  refine XS.lload X6.here hx rfl (hb hby at_183) rfl ?_
  refine XS.lload X6.here hx rfl (hb hby at_185) rfl ?_
  refine XS.lmul X6.here hx rfl (hb hby at_187) rfl ?_
  refine XS.lstore X6.here hx rfl (hb hby at_188) rfl (l' := #[.val (.long q1), .second, .val (.long q2), .second, .val (.long q3), .second, .val (.int p4), .val (.int p5), .val (.int p6), .val (.int (1 : Int32)), .val (.long k1), .second, .val (.long v1), .second, .val (.long k2), .second, .val (.long v2), .second, .val (.long k3), .second, .val (.long v3), .second, .val (.ref b1o), .val (.long ff), .second, .val (.long gg), .second, .val (.ref cp), .val (.long (k1 * ff)), .second, .val (.long (k2 * ff)), .second, .unset, .unset, .unset, .unset]) rfl ?_
  refine XS.lload X6.here hx rfl (hb hby at_190) rfl ?_
  refine XS.lload X6.here hx rfl (hb hby at_192) rfl ?_
  refine XS.lmul X6.here hx rfl (hb hby at_194) rfl ?_
  refine XS.lstore X6.here hx rfl (hb hby at_195) rfl (l' := #[.val (.long q1), .second, .val (.long q2), .second, .val (.long q3), .second, .val (.int p4), .val (.int p5), .val (.int p6), .val (.int (1 : Int32)), .val (.long k1), .second, .val (.long v1), .second, .val (.long k2), .second, .val (.long v2), .second, .val (.long k3), .second, .val (.long v3), .second, .val (.ref b1o), .val (.long ff), .second, .val (.long gg), .second, .val (.ref cp), .val (.long (k1 * ff)), .second, .val (.long (k2 * ff)), .second, .val (.long (k3 * ff)), .second, .unset, .unset]) rfl ?_
  refine XS.iconst X6.here hx rfl (hb hby at_197) ?_
  refine XS.istore X6.here hx rfl (hb hby at_198) rfl (l' := #[.val (.long q1), .second, .val (.long q2), .second, .val (.long q3), .second, .val (.int p4), .val (.int p5), .val (.int p6), .val (.int (1 : Int32)), .val (.long k1), .second, .val (.long v1), .second, .val (.long k2), .second, .val (.long v2), .second, .val (.long k3), .second, .val (.long v3), .second, .val (.ref b1o), .val (.long ff), .second, .val (.long gg), .second, .val (.ref cp), .val (.long (k1 * ff)), .second, .val (.long (k2 * ff)), .second, .val (.long (k3 * ff)), .second, .val (.int (1 : Int32)), .unset]) rfl ?_
  refine XS.iload X6.here hx rfl (hb hby at_200) rfl ?_
  refine XS.iconst X6.here hx rfl (hb hby at_202) ?_
  refine XS.icmpNo X6.here hx rfl (hb hby at_203) rfl (flt (by decide)).1 ?_
  refine XS.iload X6.here hx rfl (hb hby at_206) rfl ?_
  refine XS.ifNo X6.here hx rfl (hb hby at_208) rfl ((if0 _ _).trans (feq (by decide)).1) ?_
  refine XS.aload X6.here hx rfl (hb hby at_211) rfl rfl ?_
  refine XS.lload X6.here hx rfl (hb hby at_213) rfl ?_
  refine st8.trans ?_
  refine XS.lload X8.here hx rfl (hb hby at_218) rfl ?_
  refine XS.lload X8.here hx rfl (hb hby at_220) rfl ?_
  refine XS.lmul X8.here hx rfl (hb hby at_222) rfl ?_
  refine XS.lcmp X8.here hx rfl (hb hby at_223) rfl ?_
  refine XS.ifNo X8.here hx rfl (hb hby at_224) rfl ((if0 _ _).trans (teq (own_lceq hg8)).2) ?_
  refine XS.aload X8.here hx rfl (hb hby at_227) rfl rfl ?_
  refine XS.lload X8.here hx rfl (hb hby at_229) rfl ?_
  refine st9.trans ?_
  refine XS.lload X9.here hx rfl (hb hby at_234) rfl ?_
  refine XS.lcmp X9.here hx rfl (hb hby at_236) rfl ?_
  refine XS.ifNo X9.here hx rfl (hb hby at_237) rfl ((if0 _ _).trans (teq (own_lceq hg9)).2) ?_
  refine XS.iconst X9.here hx rfl (hb hby at_240) ?_
  refine XS.goto X9.here hx rfl (pc0 := 241) (pc' := 245) rfl (hb hby at_241) (by decide) (by decide) ?_
  show Steps p.tables e below (T9.setTop (mkF m 245 #[.val (.long q1), .second, .val (.long q2), .second, .val (.long q3), .second, .val (.int p4), .val (.int p5), .val (.int p6), .val (.int (1 : Int32)), .val (.long k1), .second, .val (.long v1), .second, .val (.long k2), .second, .val (.long v2), .second, .val (.long k3), .second, .val (.long v3), .second, .val (.ref b1o), .val (.long ff), .second, .val (.long gg), .second, .val (.ref cp), .val (.long (k1 * ff)), .second, .val (.long (k2 * ff)), .second, .val (.long (k3 * ff)), .second, .val (.int (1 : Int32)), .unset] [(.int (1 : Int32))])) _
  refine XS.istore X9.here hx rfl (hb hby at_245) rfl (l' := #[.val (.long q1), .second, .val (.long q2), .second, .val (.long q3), .second, .val (.int p4), .val (.int p5), .val (.int p6), .val (.int (1 : Int32)), .val (.long k1), .second, .val (.long v1), .second, .val (.long k2), .second, .val (.long v2), .second, .val (.long k3), .second, .val (.long v3), .second, .val (.ref b1o), .val (.long ff), .second, .val (.long gg), .second, .val (.ref cp), .val (.long (k1 * ff)), .second, .val (.long (k2 * ff)), .second, .val (.long (k3 * ff)), .second, .val (.int (1 : Int32)), .unset]) rfl ?_
  refine XS.iload X9.here hx rfl (hb hby at_247) rfl ?_
  refine XS.iconst X9.here hx rfl (hb hby at_249) ?_
  refine XS.icmpYes X9.here hx rfl (pc0 := 250) (pc' := 281) rfl (hb hby at_250) rfl (tlt (by decide)).1 (by decide) (by decide) ?_
  refine XS.iload X9.here hx rfl (hb hby at_281) rfl ?_
  refine XS.iconst X9.here hx rfl (hb hby at_283) ?_
  refine XS.icmpYes X9.here hx rfl (pc0 := 284) (pc' := 315) rfl (hb hby at_284) rfl (tlt (by decide)).1 (by decide) (by decide) ?_
  refine XS.aload X9.here hx rfl (hb hby at_315) rfl rfl ?_
  refine st14.trans ?_
  refine XS.astore X14.here hx rfl (hb hby at_320) rfl rfl (l' := #[.val (.long q1), .second, .val (.long q2), .second, .val (.long q3), .second, .val (.int p4), .val (.int p5), .val (.int p6), .val (.int (1 : Int32)), .val (.long k1), .second, .val (.long v1), .second, .val (.long k2), .second, .val (.long v2), .second, .val (.long k3), .second, .val (.long v3), .second, .val (.ref b1o), .val (.long ff), .second, .val (.long gg), .second, .val (.ref cp), .val (.long (k1 * ff)), .second, .val (.long (k2 * ff)), .second, .val (.long (k3 * ff)), .second, .val (.int (1 : Int32)), .val (.ref sa14)]) rfl ?_
  refine XS.aload X14.here hx rfl (hb hby at_322) rfl rfl ?_
  refine X14.arraylength hx Ar15.1 (State.isArrayOf_alike hZ.alike Ar15.2.1) (g := (mkF m 324 #[.val (.long q1), .second, .val (.long q2), .second, .val (.long q3), .second, .val (.int p4), .val (.int p5), .val (.int p6), .val (.int (1 : Int32)), .val (.long k1), .second, .val (.long v1), .second, .val (.long k2), .second, .val (.long v2), .second, .val (.long k3), .second, .val (.long v3), .second, .val (.ref b1o), .val (.long ff), .second, .val (.long gg), .second, .val (.ref cp), .val (.long (k1 * ff)), .second, .val (.long (k2 * ff)), .second, .val (.long (k3 * ff)), .second, .val (.int (1 : Int32)), .val (.ref sa14)] [(.ref sa14)])) rfl rfl (hb hby at_324) _ ?_
  rw [len_of Sz15 Nn15]
  show Steps p.tables e below (T14.setTop (mkF m 325 #[.val (.long q1), .second, .val (.long q2), .second, .val (.long q3), .second, .val (.int p4), .val (.int p5), .val (.int p6), .val (.int (1 : Int32)), .val (.long k1), .second, .val (.long v1), .second, .val (.long k2), .second, .val (.long v2), .second, .val (.long k3), .second, .val (.long v3), .second, .val (.ref b1o), .val (.long ff), .second, .val (.long gg), .second, .val (.ref cp), .val (.long (k1 * ff)), .second, .val (.long (k2 * ff)), .second, .val (.long (k3 * ff)), .second, .val (.int (1 : Int32)), .val (.ref sa14)] [(.int (1 : Int32))])) _
  refine XS.iload X14.here hx rfl (hb hby at_325) rfl ?_
  refine XS.icmpYes X14.here hx rfl (pc0 := 327) (pc' := 332) rfl (hb hby at_327) rfl (teq (by decide)).1 (by decide) (by decide) ?_
  refine XS.iload X14.here hx rfl (hb hby at_332) rfl ?_
  refine XS.iconst X14.here hx rfl (hb hby at_334) ?_
  refine XS.icmpNo X14.here hx rfl (hb hby at_335) rfl (flt (by decide)).1 ?_
  refine XS.iload X14.here hx rfl (hb hby at_338) rfl ?_
  refine XS.ifNo X14.here hx rfl (hb hby at_340) rfl ((if0 _ _).trans (feq (by decide)).1) ?_
  refine XS.aload X14.here hx rfl (hb hby at_343) rfl rfl ?_
  refine XS.iconst X14.here hx rfl (hb hby at_345) ?_
  refine X14.laload hx (j := (0 : Int32)) (v := (.long y14_0)) Ar16.1 (State.isArrayOf_alike hZ.alike Ar16.2.1) Ar16.2.2 hin17 hat17 (g := (mkF m 346 #[.val (.long q1), .second, .val (.long q2), .second, .val (.long q3), .second, .val (.int p4), .val (.int p5), .val (.int p6), .val (.int (1 : Int32)), .val (.long k1), .second, .val (.long v1), .second, .val (.long k2), .second, .val (.long v2), .second, .val (.long k3), .second, .val (.long v3), .second, .val (.ref b1o), .val (.long ff), .second, .val (.long gg), .second, .val (.ref cp), .val (.long (k1 * ff)), .second, .val (.long (k2 * ff)), .second, .val (.long (k3 * ff)), .second, .val (.int (1 : Int32)), .val (.ref sa14)] [(.int (0 : Int32)), (.ref sa14)])) rfl rfl (hb hby at_346) _ ?_
  refine XS.iload X14.here hx rfl (hb hby at_347) rfl ?_
  refine XS.lload X14.here hx rfl (hb hby at_349) rfl ?_
  refine XS.lload X14.here hx rfl (hb hby at_351) rfl ?_
  refine XS.lload X14.here hx rfl (hb hby at_353) rfl ?_
  refine st18 _ ?_
  refine XS.ifNo X18.here hx rfl (hb hby at_358) rfl ((if0 _ _).trans (feq (by rw [hr18, if_pos (hE _ ((mem14 _).mpr rfl))]; decide)).1) ?_
  refine XS.iconst X18.here hx rfl (hb hby at_361) ?_
  refine XS.goto X18.here hx rfl (pc0 := 362) (pc' := 366) rfl (hb hby at_362) (by decide) (by decide) ?_
  refine XS.istore X18.here hx rfl (hb hby at_366) rfl (l' := #[.val (.long q1), .second, .val (.long q2), .second, .val (.long q3), .second, .val (.int p4), .val (.int p5), .val (.int p6), .val (.int (1 : Int32)), .val (.long k1), .second, .val (.long v1), .second, .val (.long k2), .second, .val (.long v2), .second, .val (.long k3), .second, .val (.long v3), .second, .val (.ref b1o), .val (.long ff), .second, .val (.long gg), .second, .val (.ref cp), .val (.long (k1 * ff)), .second, .val (.long (k2 * ff)), .second, .val (.long (k3 * ff)), .second, .val (.int (1 : Int32)), .val (.ref sa14)]) rfl ?_
  refine XS.iload X18.here hx rfl (hb hby at_368) rfl ?_
  refine XS.iconst X18.here hx rfl (hb hby at_370) ?_
  refine XS.icmpYes X18.here hx rfl (pc0 := 371) (pc' := 416) rfl (hb hby at_371) rfl (tlt (by decide)).1 (by decide) (by decide) ?_
  refine XS.iload X18.here hx rfl (hb hby at_416) rfl ?_
  refine XS.iconst X18.here hx rfl (hb hby at_418) ?_
  refine XS.icmpYes X18.here hx rfl (pc0 := 419) (pc' := 464) rfl (hb hby at_419) rfl (tlt (by decide)).1 (by decide) (by decide) ?_
  refine XS.iload X18.here hx rfl (hb hby at_464) rfl ?_
  exact kt
set_option maxRecDepth 65536 in
set_option maxHeartbeats 40000000 in
theorem own_tl2 {p : Program} {l : Launch} {e : Env} {s : State} {m : MethodId} {below : List Frame} {meth : Method} {c : Code} {T0 : State} {L0 : List Loc} {Z : State} {a0 : Array Value} {h0 : Heap} {n0 : Nat} {q1 q2 q3 k1 v1 k2 v2 k3 v3 : Int64} {p4 p5 p6 : Int32} (hx : p.tables.exec = Jvm.exec) (hZ : Z.Warmed39 s.vm) (hw : ∀ d ∈ tables_1, d.before a0 Z = true) (hby : c.code = code) (hml : c.maxLocals = 36) (hown : s.vm.findClass "com/example/pricewright/pricewright/core/LongSumTableScaledPinLaw" = some m.cls) (X0 : Stand p l e room_1 s m #[.long q1, .long q2, .long q3, .int p4, .int p5, .int p6] below meth c T0 L0 0 0) (e0 : T0.heap = h0) (N0 : Fr n0 L0) (Z0 : n0 ≤ h0.size) (hB1 : own_B k1) (hB2 : own_B k2) (hB3 : own_B k3) (hC1 : own_B v1) (hC2 : own_B v2) (hC3 : own_B v3) (hkf : ¬ p4 = (0 : Int32)) (h12 : ¬ k1 = k2) :
    ∃ (T' : State) (L' : List Loc) (Ls : Array Slot), Stand p l e room_1 s m #[.long q1, .long q2, .long q3, .int p4, .int p5, .int p6] below meth c T' L' (9) (66) ∧ Fr n0 L' ∧ ∀ target, Steps p.tables e below (T'.setTop (mkF m 466 Ls [.int (1 : Int32)])) target → Steps p.tables e below (T0.setTop (mkF m 101 #[.val (.long q1), .second, .val (.long q2), .second, .val (.long q3), .second, .val (.int p4), .val (.int p5), .val (.int p6), .val (.int (2 : Int32)), .val (.long k1), .second, .val (.long v1), .second, .val (.long k2), .second, .val (.long v2), .second, .val (.long k3), .second, .val (.long v3), .second, .unset, .unset, .unset, .unset, .unset, .unset, .unset, .unset, .unset, .unset, .unset, .unset, .unset, .unset] [])) target := by
  have h21 : ¬ k2 = k1 := fun w => h12 w.symm
  obtain ⟨T1, h1, X1, e1, E1, A1, D1, -, st1⟩ := newO X0 hx hZ hown (hw _ (own_w 0 rfl)) (hw _ (own_w 1 rfl)) (hw _ (own_w 2 rfl)) e0 (g := (mkF m 101 #[.val (.long q1), .second, .val (.long q2), .second, .val (.long q3), .second, .val (.int p4), .val (.int p5), .val (.int p6), .val (.int (2 : Int32)), .val (.long k1), .second, .val (.long v1), .second, .val (.long k2), .second, .val (.long v2), .second, .val (.long k3), .second, .val (.long v3), .second, .unset, .unset, .unset, .unset, .unset, .unset, .unset, .unset, .unset, .unset, .unset, .unset, .unset, .unset] [])) rfl (hb hby at_101) (by decide) (by decide)
  obtain ⟨b1o, g1⟩ : ∃ z, z = h0.size := ⟨_, rfl⟩
  have b1 : n0 ≤ b1o := Nat.le_trans Z0 (Nat.le_of_eq g1.symm)
  rw [← g1] at A1 D1 st1
  have Z1 : n0 ≤ h1.size := Nat.le_trans Z0 E1.1
  have F1_14 : Fld Z h1 b1o "com/example/pricewright/pricewright/core/LongSumTable" "slots" "[J" .null := D1 (Or.inl (hw _ (own_w 14 rfl))) (ty := (.array .long)) (by decide)
  have F1_26 : Fld Z h1 b1o "com/example/pricewright/pricewright/core/LongSumTable" "shift" "I" (.int (0 : Int32)) := D1 (Or.inl (hw _ (own_w 26 rfl))) (ty := .int) (by decide)
  have F1_41 : Fld Z h1 b1o "com/example/pricewright/pricewright/core/LongSumTable" "sorted" "[J" .null := D1 (Or.inl (hw _ (own_w 41 rfl))) (ty := (.array .long)) (by decide)
  have F1_43 : Fld Z h1 b1o "com/example/pricewright/pricewright/core/LongSumTable" "size" "I" (.int (0 : Int32)) := D1 (Or.inl (hw _ (own_w 43 rfl))) (ty := .int) (by decide)
  obtain ⟨_, _, ⟨T2, Lq2, kq2, nq2⟩, -, X2, ⟨Lc2, hQ2, lq2, yq2, zq2⟩, st2⟩ := X1.specialBack hx (y := (⟨"com/example/pricewright/pricewright/core/LongSumTable", "<init>", "()V"⟩ : MethodName)) rfl hown (mvT hZ (hw _ (own_w 3 rfl))) (mvT hZ (hw _ (own_w 4 rfl))) (mvT hZ (hw _ (own_w 5 rfl))) (by decide) (backOf (W := 1) (rmI0 l Z a0 hw [] b1o  h1 n0 Z1 A1 F1_14 F1_26 F1_43 F1_41 b1) hZ (hw _ (own_w 5 rfl)) (hw _ (own_w 2 rfl)) (by decide) (by decide)) (g := (mkF m 105 #[.val (.long q1), .second, .val (.long q2), .second, .val (.long q3), .second, .val (.int p4), .val (.int p5), .val (.int p6), .val (.int (2 : Int32)), .val (.long k1), .second, .val (.long v1), .second, .val (.long k2), .second, .val (.long v2), .second, .val (.long k3), .second, .val (.long v3), .second, .unset, .unset, .unset, .unset, .unset, .unset, .unset, .unset, .unset, .unset, .unset, .unset, .unset, .unset] [(.ref b1o), (.ref b1o)])) rfl (by rw [hml]; rfl) (Steps.refl _) (a := b1o) (argsL := []) (rest := [(.ref b1o)]) (lenOf pd_10 rfl) rfl (by show 2 * 0 + _ ≤ _; exact Nat.le_of_eq rfl) (hb hby at_105) (fun _ _ => ⟨rfl, e1, (by decide : 1 + 1 ≤ _), (by decide : 4 + 8 ≤ _)⟩)
  dsimp only [Pt.U, Pt.locs, Pt.cells, Pt.slots] at X2 lq2 yq2 zq2 st2 hQ2
  subst lq2 yq2 zq2
  obtain ⟨rfl, N2q, KC2, u2⟩ := hQ2
  have N2 := Fr.app N0 N2q
  have Z2 : n0 ≤ T2.heap.size := Nat.le_trans Z1 KC2.1
  obtain ⟨sa2, sk2, ga2, gk2, EI2, FS2, FH2, FZ2, FQ2, AV2⟩ := id u2
  have net2 : b1o ≠ sa2 := ne_arrV (EI2) (hw _ (own_w 1 rfl)) AV2
  have rp2e := own_rep_empty (W := own_W own_new4) (hs := own_hs 4) own_new4K
  have fr2e : ∃ j, j < 4 ∧ own_K own_new4 j = own_FREE := ⟨0, by decide, own_new4K 0 (by decide)⟩
  obtain ⟨cq3, kz3, q3a, q3b, q3c⟩ := isOf hZ rfl EI2
  obtain ⟨_, _, ⟨T3, Lq3, kq3, nq3⟩, -, X3, ⟨Lc3, hQ3, lq3, yq3, zq3⟩, st3⟩ := X2.virtualBack hx (y := (⟨"com/example/pricewright/pricewright/core/LongSumTable", "add", "(JJ)V"⟩ : MethodName)) (z := (⟨"com/example/pricewright/pricewright/core/LongSumTable", "add", "(JJ)V"⟩ : MethodName)) hown (mvT hZ (hw _ (own_w 27 rfl))) (mvT hZ (hw _ (own_w 28 rfl))) (notFace_of_selects (args := #[]) (mvT hZ (hw _ (own_w 30 rfl)))) (mvT hZ (hw _ (own_w 30 rfl))) (mvT hZ (hw _ (own_w 29 rfl))) (by decide) (backOf (W := 0) (rmA l Z a0 hw [] b1o k1 v1 sa2 sk2 own_new4 (fun _ => False) (fun _ => 0) (0) .null T2.heap n0 Z2 EI2 FS2 FH2 FZ2 FQ2 AV2 (rfl : own_new4.length = 2 * 4) net2 b1 ga2 rp2e (Nat.zero_le 2) (own_Bne hB1) (fun h => h.elim)) hZ (hw _ (own_w 31 rfl)) (hw _ (own_w 2 rfl)) (by decide) (by decide)) q3a q3c (g := (mkF m 122 #[.val (.long q1), .second, .val (.long q2), .second, .val (.long q3), .second, .val (.int p4), .val (.int p5), .val (.int p6), .val (.int (2 : Int32)), .val (.long k1), .second, .val (.long v1), .second, .val (.long k2), .second, .val (.long v2), .second, .val (.long k3), .second, .val (.long v3), .second, .val (.ref b1o), .unset, .unset, .unset, .unset, .unset, .unset, .unset, .unset, .unset, .unset, .unset, .unset, .unset] [(.long v1), (.long k1), (.ref b1o)])) rfl (by rw [hml]; rfl) (Steps.refl _) (argsL := [(.long k1), (.long v1)]) (rest := []) (lenOf pd_3 rfl) rfl (by show 2 * 0 + _ ≤ _; exact Nat.le_of_eq rfl) (hb hby at_122) (fun _ _ => ⟨rfl, rfl, (by decide : 2 + 2 ≤ _), (by decide : 12 + 20 ≤ _)⟩)
  dsimp only [Pt.U, Pt.locs, Pt.cells, Pt.slots] at X3 lq3 yq3 zq3 st3 hQ3
  subst lq3 yq3 zq3
  obtain ⟨rfl, N3q, Z3, KA3, nn3, sz3, so3, D3, M3, hD3, hM3, ⟨ta3, tk3, ta3r, ts3, hn3, tg3, tE3, tS3, tH3, tZ3, tQ3, tA3, tl3, tr3⟩, hc3, hl3, hy3, ho3⟩ := hQ3
  have N3 := Fr.app N2 N3q
  obtain ⟨rfl, hz3⟩ : nn3 = 4 ∧ sz3 ≤ 2 := by omega
  obtain rfl := own_sh62 hn3
  have tf3 : ∃ j, j < 4 ∧ own_K ta3r j = own_FREE := own_cnt_free (by rw [tr3.2.2.2]; omega)
  have ne5 : b1o ≠ ta3 := ne_arrV tE3 (hw _ (own_w 1 rfl)) tA3
  obtain ⟨hz3', hso3'⟩ := ho3 (fun h => h.elim)
  subst hz3' hso3'
  obtain ⟨cq6, kz6, q6a, q6b, q6c⟩ := isOf hZ rfl tE3
  obtain ⟨_, _, ⟨T6, Lq6, kq6, nq6⟩, -, X6, ⟨Lc6, hQ6, lq6, yq6, zq6⟩, st6⟩ := X3.virtualBack hx (y := (⟨"com/example/pricewright/pricewright/core/LongSumTable", "add", "(JJ)V"⟩ : MethodName)) (z := (⟨"com/example/pricewright/pricewright/core/LongSumTable", "add", "(JJ)V"⟩ : MethodName)) hown (mvT hZ (hw _ (own_w 27 rfl))) (mvT hZ (hw _ (own_w 28 rfl))) (notFace_of_selects (args := #[]) (mvT hZ (hw _ (own_w 30 rfl)))) (mvT hZ (hw _ (own_w 30 rfl))) (mvT hZ (hw _ (own_w 29 rfl))) (by decide) (backOf (W := 0) (rmA l Z a0 hw [] b1o k2 v2 ta3 tk3 ta3r D3 M3 (1) .null T3.heap n0 Z3 tE3 tS3 tH3 tZ3 tQ3 tA3 tl3 ne5 b1 tg3 tr3 (by decide) (own_Bne hB2) (fun h => by simp [hD3, h12, h21] at h)) hZ (hw _ (own_w 31 rfl)) (hw _ (own_w 2 rfl)) (by decide) (by decide)) q6a q6c (g := (mkF m 137 #[.val (.long q1), .second, .val (.long q2), .second, .val (.long q3), .second, .val (.int p4), .val (.int p5), .val (.int p6), .val (.int (2 : Int32)), .val (.long k1), .second, .val (.long v1), .second, .val (.long k2), .second, .val (.long v2), .second, .val (.long k3), .second, .val (.long v3), .second, .val (.ref b1o), .unset, .unset, .unset, .unset, .unset, .unset, .unset, .unset, .unset, .unset, .unset, .unset, .unset] [(.long v2), (.long k2), (.ref b1o)])) rfl (by rw [hml]; rfl) (Steps.refl _) (argsL := [(.long k2), (.long v2)]) (rest := []) (lenOf pd_3 rfl) rfl (by show 2 * 0 + _ ≤ _; exact Nat.le_of_eq rfl) (hb hby at_137) (fun _ _ => ⟨rfl, rfl, (by decide : 4 + 2 ≤ _), (by decide : 32 + 20 ≤ _)⟩)
  dsimp only [Pt.U, Pt.locs, Pt.cells, Pt.slots] at X6 lq6 yq6 zq6 st6 hQ6
  subst lq6 yq6 zq6
  obtain ⟨rfl, N6q, Z6, KA6, nn6, sz6, so6, D6, M6, hD6, hM6, ⟨ta6, tk6, ta6r, ts6, hn6, tg6, tE6, tS6, tH6, tZ6, tQ6, tA6, tl6, tr6⟩, hc6, hl6, hy6, ho6⟩ := hQ6
  have N6 := Fr.app N3 N6q
  obtain ⟨rfl, hz6⟩ : nn6 = 4 ∧ sz6 ≤ 2 := by omega
  obtain rfl := own_sh62 hn6
  have tf6 : ∃ j, j < 4 ∧ own_K ta6r j = own_FREE := own_cnt_free (by rw [tr6.2.2.2]; omega)
  have ne8 : b1o ≠ ta6 := ne_arrV tE6 (hw _ (own_w 1 rfl)) tA6
  obtain ⟨hz6', hso6'⟩ := ho6 (fun h => by simp [hD3, h12, h21] at h)
  subst hz6' hso6'
  obtain ⟨ff, hff⟩ : ∃ z : Int64, z = (p4.toInt64) := ⟨_, rfl⟩
  have hBf : own_B ff := by rw [hff]; exact own_Bi p4
  have hf0 : ¬ ff = (0 : Int64) := by rw [hff]; exact own_i2l0 hkf
  obtain ⟨gg, hgg⟩ : ∃ z : Int64, z = (p5.toInt64) := ⟨_, rfl⟩
  have hBg : own_B gg := by rw [hgg]; exact own_Bi p5
  have hDs : ∀ x : Int64, D6 x ↔ (x = k1 ∨ x = k2) := fun x => by simp [hD6, hD3, or_assoc]
  have hv1 : M6 k1 = v1 := by simp [hM6, hM3, h12, h21]
  have hd1 : D6 k1 := (hDs k1).mpr (by simp)
  have hv2 : M6 k2 = v2 := by simp [hM6, hM3, h12, h21]
  have hd2 : D6 k2 := (hDs k2).mpr (by simp)
  have hbD : ∀ x : Int64, D6 x → own_B x ∧ own_B (M6 x) := fun x w => by
    rcases (hDs x).mp w with e1 | e2
    · rw [e1]; exact ⟨hB1, by rw [hv1]; exact hC1⟩
    · rw [e2]; exact ⟨hB2, by rw [hv2]; exact hC2⟩
  obtain ⟨cq9, kz9, q9a, q9b, q9c⟩ := isOf hZ rfl tE6
  obtain ⟨_, _, ⟨T9, Lq9, kq9, nq9⟩, -, X9, ⟨Lc9, hQ9, lq9, yq9, zq9⟩, st9⟩ := X6.virtualBack hx (y := (⟨"com/example/pricewright/pricewright/core/LongSumTable", "scaled", "(JJ)Lcom/example/pricewright/pricewright/core/LongSumTable;"⟩ : MethodName)) (z := (⟨"com/example/pricewright/pricewright/core/LongSumTable", "scaled", "(JJ)Lcom/example/pricewright/pricewright/core/LongSumTable;"⟩ : MethodName)) hown (mvT hZ (hw _ (own_w 44 rfl))) (mvT hZ (hw _ (own_w 45 rfl))) (notFace_of_selects (args := #[]) (mvT hZ (hw _ (own_w 47 rfl)))) (mvT hZ (hw _ (own_w 47 rfl))) (mvT hZ (hw _ (own_w 46 rfl))) (by decide) (backOf (W := 0) (rmC4 l Z a0 hw [] b1o ff gg ta6 tk6 ta6r D6 M6 (2) T6.heap n0 Z6 tE6 tS6 tZ6 tA6 ne8 tr6 hBf hBg hbD (fun x y w u q => own_mulI (hbD x w).1 (hbD y u).1 hBf hf0 q)) hZ (hw _ (own_w 48 rfl)) (hw _ (own_w 2 rfl)) (by decide) (by decide)) q9a q9c (g := (mkF m 171 #[.val (.long q1), .second, .val (.long q2), .second, .val (.long q3), .second, .val (.int p4), .val (.int p5), .val (.int p6), .val (.int (2 : Int32)), .val (.long k1), .second, .val (.long v1), .second, .val (.long k2), .second, .val (.long v2), .second, .val (.long k3), .second, .val (.long v3), .second, .val (.ref b1o), .val (.long ff), .second, .val (.long gg), .second, .unset, .unset, .unset, .unset, .unset, .unset, .unset, .unset, .unset] [(.long gg), (.long ff), (.ref b1o)])) rfl (by rw [hml]; rfl) (Steps.refl _) (argsL := [(.long ff), (.long gg)]) (rest := []) (lenOf pd_11 rfl) rfl (by show 2 * 0 + _ ≤ _; exact Nat.le_of_eq rfl) (hb hby at_171) (fun _ _ => ⟨rfl, rfl, (by decide : 6 + 2 ≤ _), (by decide : 52 + 12 ≤ _)⟩)
  dsimp only [Pt.U, Pt.locs, Pt.cells, Pt.slots] at X9 lq9 yq9 zq9 st9 hQ9
  subst lq9 yq9 zq9
  obtain ⟨cp, rfl, N9q, Z9, KC9, gcp, gz9, D2, M2, ⟨ca, ck, car, csh, chn, cga, cE, cS, cH, cZ, cQ, cA, cl, cr⟩, hD2, hM2⟩ := hQ9
  have N9 := Fr.app N6 N9q
  obtain rfl := own_sh62 chn
  have cf : ∃ j, j < 4 ∧ own_K car j = own_FREE := own_cnt_free (by rw [cr.2.2.2]; decide)
  have ne10 : cp ≠ ca := ne_arrV cE (hw _ (own_w 1 rfl)) cA
  have hE : ∀ x, D2 x → (x = k1 * ff ∨ x = k2 * ff) := fun x w => by
    obtain ⟨y, u, e⟩ := (hD2 x).mp w
    rcases (hDs y).mp u with e1 | e1 <;> rw [← e, e1] <;> simp
  have hm1 : M2 (k1 * ff) = v1 * gg := by rw [hM2 _ hd1, hv1]
  have hm2 : M2 (k2 * ff) = v2 * gg := by rw [hM2 _ hd2, hv2]
  obtain ⟨cq11, kz11, q11a, q11b, q11c⟩ := isOf hZ rfl cE
  obtain ⟨_, _, ⟨T11, Lq11, kq11, nq11⟩, -, X11, ⟨Lc11, hQ11, lq11, yq11, zq11⟩, st11⟩ := X9.virtualBack hx (y := (⟨"com/example/pricewright/pricewright/core/LongSumTable", "get", "(J)J"⟩ : MethodName)) (z := (⟨"com/example/pricewright/pricewright/core/LongSumTable", "get", "(J)J"⟩ : MethodName)) hown (mvT hZ (hw _ (own_w 61 rfl))) (mvT hZ (hw _ (own_w 62 rfl))) (notFace_of_selects (args := #[]) (mvT hZ (hw _ (own_w 64 rfl)))) (mvT hZ (hw _ (own_w 64 rfl))) (mvT hZ (hw _ (own_w 63 rfl))) (by decide) (backOf (W := 0) (rmG l Z a0 hw [] cp (k1 * ff) ca ck (car) 4 (62 : Int32) T9.heap n0 Z9 (Or.inl ⟨rfl, rfl⟩) cE cS cH cA cf) hZ (hw _ (own_w 65 rfl)) (hw _ (own_w 2 rfl)) (by decide) (by decide)) q11a q11c (g := (mkF m 215 #[.val (.long q1), .second, .val (.long q2), .second, .val (.long q3), .second, .val (.int p4), .val (.int p5), .val (.int p6), .val (.int (2 : Int32)), .val (.long k1), .second, .val (.long v1), .second, .val (.long k2), .second, .val (.long v2), .second, .val (.long k3), .second, .val (.long v3), .second, .val (.ref b1o), .val (.long ff), .second, .val (.long gg), .second, .val (.ref cp), .val (.long (k1 * ff)), .second, .val (.long (k2 * ff)), .second, .val (.long (k3 * ff)), .second, .val (.int (1 : Int32)), .unset] [(.long (k1 * ff)), (.ref cp)])) rfl (by rw [hml]; rfl) (Steps.refl _) (argsL := [(.long (k1 * ff))]) (rest := []) (lenOf pd_4 rfl) rfl (by show 2 * 0 + _ ≤ _; exact Nat.le_of_eq rfl) (hb hby at_215) (fun _ _ => ⟨rfl, rfl, (by decide : 8 + 0 ≤ _), (by decide : 64 + 0 ≤ _)⟩)
  dsimp only [Pt.U, Pt.locs, Pt.cells, Pt.slots] at X11 lq11 yq11 zq11 st11 hQ11
  subst lq11 yq11 zq11
  obtain ⟨r11, hr11, rfl, N11q, e11⟩ := hQ11
  have N11 := Fr.app N9 N11q
  obtain ⟨ig11, hig11, Pg11, hv11⟩ := hr11
  have hg11 : r11 = v1 * gg := by rw [hv11, ← hm1]; exact own_rep_get cr hig11 (own_mulF hB1 hBf) Pg11
  have f13 := (tE6.keep KC9)
  have f14 := (tS6.keep KC9 nin0)
  have f15 := (tH6.keep KC9 nin0)
  have f16 := (tA6.keep KC9 nin0)
  obtain ⟨cq12, kz12, q12a, q12b, q12c⟩ := isOf hZ e11 f13
  obtain ⟨_, _, ⟨T12, Lq12, kq12, nq12⟩, -, X12, ⟨Lc12, hQ12, lq12, yq12, zq12⟩, st12⟩ := X11.virtualBack hx (y := (⟨"com/example/pricewright/pricewright/core/LongSumTable", "get", "(J)J"⟩ : MethodName)) (z := (⟨"com/example/pricewright/pricewright/core/LongSumTable", "get", "(J)J"⟩ : MethodName)) hown (mvT hZ (hw _ (own_w 61 rfl))) (mvT hZ (hw _ (own_w 62 rfl))) (notFace_of_selects (args := #[]) (mvT hZ (hw _ (own_w 64 rfl)))) (mvT hZ (hw _ (own_w 64 rfl))) (mvT hZ (hw _ (own_w 63 rfl))) (by decide) (backOf (W := 0) (rmG l Z a0 hw [] b1o k1 ta6 tk6 (ta6r) 4 (62 : Int32) T9.heap n0 Z9 (Or.inl ⟨rfl, rfl⟩) f13 f14 f15 f16 tf6) hZ (hw _ (own_w 65 rfl)) (hw _ (own_w 2 rfl)) (by decide) (by decide)) q12a q12c (g := (mkF m 231 #[.val (.long q1), .second, .val (.long q2), .second, .val (.long q3), .second, .val (.int p4), .val (.int p5), .val (.int p6), .val (.int (2 : Int32)), .val (.long k1), .second, .val (.long v1), .second, .val (.long k2), .second, .val (.long v2), .second, .val (.long k3), .second, .val (.long v3), .second, .val (.ref b1o), .val (.long ff), .second, .val (.long gg), .second, .val (.ref cp), .val (.long (k1 * ff)), .second, .val (.long (k2 * ff)), .second, .val (.long (k3 * ff)), .second, .val (.int (1 : Int32)), .unset] [(.long k1), (.ref b1o)])) rfl (by rw [hml]; rfl) (Steps.refl _) (argsL := [(.long k1)]) (rest := []) (lenOf pd_4 rfl) rfl (by show 2 * 0 + _ ≤ _; exact Nat.le_of_eq rfl) (hb hby at_231) (fun _ _ => ⟨rfl, e11, (by decide : 8 + 0 ≤ _), (by decide : 64 + 0 ≤ _)⟩)
  dsimp only [Pt.U, Pt.locs, Pt.cells, Pt.slots] at X12 lq12 yq12 zq12 st12 hQ12
  subst lq12 yq12 zq12
  obtain ⟨r12, hr12, rfl, N12q, e12⟩ := hQ12
  have N12 := Fr.app N11 N12q
  obtain ⟨ig12, hig12, Pg12, hv12⟩ := hr12
  have hg12 : r12 = v1 := by rw [hv12, ← hv1]; exact own_rep_get tr6 hig12 (own_Bne hB1) Pg12
  obtain ⟨cq17, kz17, q17a, q17b, q17c⟩ := isOf hZ e12 cE
  obtain ⟨_, _, ⟨T17, Lq17, kq17, nq17⟩, -, X17, ⟨Lc17, hQ17, lq17, yq17, zq17⟩, st17⟩ := X12.virtualBack hx (y := (⟨"com/example/pricewright/pricewright/core/LongSumTable", "get", "(J)J"⟩ : MethodName)) (z := (⟨"com/example/pricewright/pricewright/core/LongSumTable", "get", "(J)J"⟩ : MethodName)) hown (mvT hZ (hw _ (own_w 61 rfl))) (mvT hZ (hw _ (own_w 62 rfl))) (notFace_of_selects (args := #[]) (mvT hZ (hw _ (own_w 64 rfl)))) (mvT hZ (hw _ (own_w 64 rfl))) (mvT hZ (hw _ (own_w 63 rfl))) (by decide) (backOf (W := 0) (rmG l Z a0 hw [] cp (k2 * ff) ca ck (car) 4 (62 : Int32) T9.heap n0 Z9 (Or.inl ⟨rfl, rfl⟩) cE cS cH cA cf) hZ (hw _ (own_w 65 rfl)) (hw _ (own_w 2 rfl)) (by decide) (by decide)) q17a q17c (g := (mkF m 262 #[.val (.long q1), .second, .val (.long q2), .second, .val (.long q3), .second, .val (.int p4), .val (.int p5), .val (.int p6), .val (.int (2 : Int32)), .val (.long k1), .second, .val (.long v1), .second, .val (.long k2), .second, .val (.long v2), .second, .val (.long k3), .second, .val (.long v3), .second, .val (.ref b1o), .val (.long ff), .second, .val (.long gg), .second, .val (.ref cp), .val (.long (k1 * ff)), .second, .val (.long (k2 * ff)), .second, .val (.long (k3 * ff)), .second, .val (.int (1 : Int32)), .unset] [(.long (k2 * ff)), (.ref cp)])) rfl (by rw [hml]; rfl) (Steps.refl _) (argsL := [(.long (k2 * ff))]) (rest := []) (lenOf pd_4 rfl) rfl (by show 2 * 0 + _ ≤ _; exact Nat.le_of_eq rfl) (hb hby at_262) (fun _ _ => ⟨rfl, e12, (by decide : 8 + 0 ≤ _), (by decide : 64 + 0 ≤ _)⟩)
  dsimp only [Pt.U, Pt.locs, Pt.cells, Pt.slots] at X17 lq17 yq17 zq17 st17 hQ17
  subst lq17 yq17 zq17
  obtain ⟨r17, hr17, rfl, N17q, e17⟩ := hQ17
  have N17 := Fr.app N12 N17q
  obtain ⟨ig17, hig17, Pg17, hv17⟩ := hr17
  have hg17 : r17 = v2 * gg := by rw [hv17, ← hm2]; exact own_rep_get cr hig17 (own_mulF hB2 hBf) Pg17
  obtain ⟨cq18, kz18, q18a, q18b, q18c⟩ := isOf hZ e17 cE
  obtain ⟨_, _, ⟨T18, Lq18, kq18, nq18⟩, -, X18, ⟨Lc18, hQ18, lq18, yq18, zq18⟩, st18⟩ := X17.virtualBack hx (y := (⟨"com/example/pricewright/pricewright/core/LongSumTable", "sortedKeys", "()[J"⟩ : MethodName)) (z := (⟨"com/example/pricewright/pricewright/core/LongSumTable", "sortedKeys", "()[J"⟩ : MethodName)) hown (mvT hZ (hw _ (own_w 66 rfl))) (mvT hZ (hw _ (own_w 67 rfl))) (notFace_of_selects (args := #[]) (mvT hZ (hw _ (own_w 69 rfl)))) (mvT hZ (hw _ (own_w 69 rfl))) (mvT hZ (hw _ (own_w 68 rfl))) (by decide) (backOf (W := 0) (rmK4_2 l Z a0 hw [] cp ca ck car D2 M2 T9.heap n0 Z9 cE cS cH cZ cQ cA ne10 gcp cr) hZ (hw _ (own_w 70 rfl)) (hw _ (own_w 2 rfl)) (by decide) (by decide)) q18a q18c (g := (mkF m 317 #[.val (.long q1), .second, .val (.long q2), .second, .val (.long q3), .second, .val (.int p4), .val (.int p5), .val (.int p6), .val (.int (2 : Int32)), .val (.long k1), .second, .val (.long v1), .second, .val (.long k2), .second, .val (.long v2), .second, .val (.long k3), .second, .val (.long v3), .second, .val (.ref b1o), .val (.long ff), .second, .val (.long gg), .second, .val (.ref cp), .val (.long (k1 * ff)), .second, .val (.long (k2 * ff)), .second, .val (.long (k3 * ff)), .second, .val (.int (1 : Int32)), .unset] [(.ref cp)])) rfl (by rw [hml]; rfl) (Steps.refl _) (argsL := []) (rest := []) (lenOf pd_12 rfl) rfl (by show 2 * 0 + _ ≤ _; exact Nat.le_of_eq rfl) (hb hby at_317) (fun _ _ => ⟨rfl, e17, (by decide : 8 + 1 ≤ _), (by decide : 64 + 2 ≤ _)⟩)
  dsimp only [Pt.U, Pt.locs, Pt.cells, Pt.slots] at X18 lq18 yq18 zq18 st18 hQ18
  subst lq18 yq18 zq18
  obtain ⟨sa18, sk18, y18_0, y18_1, rfl, N18q, KC18, gs18, gz18, E18', FS18', FH18', FZ18', FQ18', AS18, str18, mem18⟩ := hQ18
  have N18 := Fr.app N17 N18q
  have Z18 : n0 ≤ T18.heap.size := Nat.le_trans Z9 KC18.1
  obtain ⟨cl19, Ar19, qk19, Sz19, Nn19, Hh19, Gg19⟩ := id (AS18)
  obtain ⟨cl20, Ar20, qk20, Sz20, Nn20, Hh20, Gg20⟩ := id (AS18)
  have hin21 : ¬ ((0 : Int32) < 0 ∨ cl20.slots.size ≤ ((0 : Int32)).toNatClampNeg) := inb_of Sz20 ⟨by decide, by decide⟩
  have hat21 : cl20.slots[((0 : Int32)).toNatClampNeg]? = some (.long y18_0) := Has.at Hh20 hin21 rfl
  obtain ⟨_, _, ⟨T22, Lq22, kq22, nq22⟩, -, X22, ⟨Lc22, hQ22, lq22, yq22, zq22⟩, st22⟩ := Jvm.LawKit.callS X18 hx (y := (⟨"com/example/pricewright/pricewright/core/LongSumTableScaledPinLaw", "in", "(JIJJJ)Z"⟩ : MethodName)) hown (mvT hZ (hw _ (own_w 85 rfl))) (mvT hZ (hw _ (own_w 86 rfl))) (mvT hZ (hw _ (own_w 87 rfl))) (mvT hZ (hw _ (own_w 88 rfl))) (by decide) (backOf (W := 0) (rmin2 l Z a0 hw [] y18_0 (k1 * ff) (k2 * ff) (k3 * ff)  T18.heap n0 Z18 ) hZ (hw _ (own_w 88 rfl)) (hw _ (own_w 87 rfl)) (by decide) (by decide)) (g := (mkF m 355 #[.val (.long q1), .second, .val (.long q2), .second, .val (.long q3), .second, .val (.int p4), .val (.int p5), .val (.int p6), .val (.int (2 : Int32)), .val (.long k1), .second, .val (.long v1), .second, .val (.long k2), .second, .val (.long v2), .second, .val (.long k3), .second, .val (.long v3), .second, .val (.ref b1o), .val (.long ff), .second, .val (.long gg), .second, .val (.ref cp), .val (.long (k1 * ff)), .second, .val (.long (k2 * ff)), .second, .val (.long (k3 * ff)), .second, .val (.int (1 : Int32)), .val (.ref sa18)] [(.long (k3 * ff)), (.long (k2 * ff)), (.long (k1 * ff)), (.int (2 : Int32)), (.long y18_0)])) rfl (by rw [hml]; rfl) (argsL := [(.long y18_0), (.int (2 : Int32)), (.long (k1 * ff)), (.long (k2 * ff)), (.long (k3 * ff))]) (rest := []) (lenOf pd_13 rfl) rfl (by show 2 * 0 + _ ≤ _; exact Nat.le_of_eq rfl) (hb hby at_355) (fun _ _ => ⟨rfl, rfl, (by decide : 9 + 0 ≤ _), (by decide : 66 + 0 ≤ _)⟩)
  dsimp only [Pt.U, Pt.locs, Pt.cells, Pt.slots] at X22 lq22 yq22 zq22 st22 hQ22
  subst lq22 yq22 zq22
  obtain ⟨r22, hr22, rfl, N22q, e22⟩ := hQ22
  have N22 := Fr.app N18 N22q
  obtain ⟨cl23, Ar23, qk23, Sz23, Nn23, Hh23, Gg23⟩ := id (AS18)
  have hin24 : ¬ ((1 : Int32) < 0 ∨ cl23.slots.size ≤ ((1 : Int32)).toNatClampNeg) := inb_of Sz23 ⟨by decide, by decide⟩
  have hat24 : cl23.slots[((1 : Int32)).toNatClampNeg]? = some (.long y18_1) := Has.at Hh23 hin24 rfl
  obtain ⟨_, _, ⟨T25, Lq25, kq25, nq25⟩, -, X25, ⟨Lc25, hQ25, lq25, yq25, zq25⟩, st25⟩ := Jvm.LawKit.callS X22 hx (y := (⟨"com/example/pricewright/pricewright/core/LongSumTableScaledPinLaw", "in", "(JIJJJ)Z"⟩ : MethodName)) hown (mvT hZ (hw _ (own_w 85 rfl))) (mvT hZ (hw _ (own_w 86 rfl))) (mvT hZ (hw _ (own_w 87 rfl))) (mvT hZ (hw _ (own_w 88 rfl))) (by decide) (backOf (W := 0) (rmin2 l Z a0 hw [] y18_1 (k1 * ff) (k2 * ff) (k3 * ff)  T18.heap n0 Z18 ) hZ (hw _ (own_w 88 rfl)) (hw _ (own_w 87 rfl)) (by decide) (by decide)) (g := (mkF m 391 #[.val (.long q1), .second, .val (.long q2), .second, .val (.long q3), .second, .val (.int p4), .val (.int p5), .val (.int p6), .val (.int (2 : Int32)), .val (.long k1), .second, .val (.long v1), .second, .val (.long k2), .second, .val (.long v2), .second, .val (.long k3), .second, .val (.long v3), .second, .val (.ref b1o), .val (.long ff), .second, .val (.long gg), .second, .val (.ref cp), .val (.long (k1 * ff)), .second, .val (.long (k2 * ff)), .second, .val (.long (k3 * ff)), .second, .val (.int (1 : Int32)), .val (.ref sa18)] [(.long (k3 * ff)), (.long (k2 * ff)), (.long (k1 * ff)), (.int (2 : Int32)), (.long y18_1)])) rfl (by rw [hml]; rfl) (argsL := [(.long y18_1), (.int (2 : Int32)), (.long (k1 * ff)), (.long (k2 * ff)), (.long (k3 * ff))]) (rest := []) (lenOf pd_13 rfl) rfl (by show 2 * 0 + _ ≤ _; exact Nat.le_of_eq rfl) (hb hby at_391) (fun _ _ => ⟨rfl, e22, (by decide : 9 + 0 ≤ _), (by decide : 66 + 0 ≤ _)⟩)
  dsimp only [Pt.U, Pt.locs, Pt.cells, Pt.slots] at X25 lq25 yq25 zq25 st25 hQ25
  subst lq25 yq25 zq25
  obtain ⟨r25, hr25, rfl, N25q, e25⟩ := hQ25
  have N25 := Fr.app N22 N25q
  obtain ⟨cl26, Ar26, qk26, Sz26, Nn26, Hh26, Gg26⟩ := id (AS18)
  have hin27 : ¬ ((0 : Int32) < 0 ∨ cl26.slots.size ≤ ((0 : Int32)).toNatClampNeg) := inb_of Sz26 ⟨by decide, by decide⟩
  have hat27 : cl26.slots[((0 : Int32)).toNatClampNeg]? = some (.long y18_0) := Has.at Hh26 hin27 rfl
  obtain ⟨cl28, Ar28, qk28, Sz28, Nn28, Hh28, Gg28⟩ := id (AS18)
  have hin29 : ¬ ((1 : Int32) < 0 ∨ cl28.slots.size ≤ ((1 : Int32)).toNatClampNeg) := inb_of Sz28 ⟨by decide, by decide⟩
  have hat29 : cl28.slots[((1 : Int32)).toNatClampNeg]? = some (.long y18_1) := Has.at Hh28 hin29 rfl
  refine ⟨T25, _, #[.val (.long q1), .second, .val (.long q2), .second, .val (.long q3), .second, .val (.int p4), .val (.int p5), .val (.int p6), .val (.int (2 : Int32)), .val (.long k1), .second, .val (.long v1), .second, .val (.long k2), .second, .val (.long v2), .second, .val (.long k3), .second, .val (.long v3), .second, .val (.ref b1o), .val (.long ff), .second, .val (.long gg), .second, .val (.ref cp), .val (.long (k1 * ff)), .second, .val (.long (k2 * ff)), .second, .val (.long (k3 * ff)), .second, .val (.int (1 : Int32)), .val (.ref sa18)], X25, N25, fun target kt => ?_⟩
  refine st1 _ ?_
  refine XS.dup X1.here hx rfl (hb hby at_104) rfl rfl ?_
  refine st2.trans ?_
  refine XS.astore X2.here hx rfl (hb hby at_108) rfl rfl (l' := #[.val (.long q1), .second, .val (.long q2), .second, .val (.long q3), .second, .val (.int p4), .val (.int p5), .val (.int p6), .val (.int (2 : Int32)), .val (.long k1), .second, .val (.long v1), .second, .val (.long k2), .second, .val (.long v2), .second, .val (.long k3), .second, .val (.long v3), .second, .val (.ref b1o), .unset, .unset, .unset, .unset, .unset, .unset, .unset, .unset, .unset, .unset, .unset, .unset, .unset]) rfl ?_
  refine XS.iload X2.here hx rfl (hb hby at_110) rfl ?_
  refine XS.iconst X2.here hx rfl (hb hby at_112) ?_
  refine XS.icmpNo X2.here hx rfl (hb hby at_113) rfl (flt (by decide)).1 ?_
  refine XS.aload X2.here hx rfl (hb hby at_116) rfl rfl ?_
  refine XS.lload X2.here hx rfl (hb hby at_118) rfl ?_
  refine XS.lload X2.here hx rfl (hb hby at_120) rfl ?_
  refine st3.trans ?_
  refine XS.iload X3.here hx rfl (hb hby at_125) rfl ?_
  refine XS.iconst X3.here hx rfl (hb hby at_127) ?_
  refine XS.icmpNo X3.here hx rfl (hb hby at_128) rfl (flt (by decide)).1 ?_
  refine XS.aload X3.here hx rfl (hb hby at_131) rfl rfl ?_
  refine XS.lload X3.here hx rfl (hb hby at_133) rfl ?_
  refine XS.lload X3.here hx rfl (hb hby at_135) rfl ?_
  refine st6.trans ?_
  refine XS.iload X6.here hx rfl (hb hby at_140) rfl ?_
  refine XS.iconst X6.here hx rfl (hb hby at_142) ?_
  refine XS.icmpYes X6.here hx rfl (pc0 := 143) (pc' := 155) rfl (hb hby at_143) rfl (tlt (by decide)).1 (by decide) (by decide) ?_
  refine XS.iload X6.here hx rfl (hb hby at_155) rfl ?_
  refine XS.i2l X6.here hx rfl (hb hby at_157) rfl ?_
  refine XS.lstore X6.here hx rfl (hb hby at_158) rfl (l' := #[.val (.long q1), .second, .val (.long q2), .second, .val (.long q3), .second, .val (.int p4), .val (.int p5), .val (.int p6), .val (.int (2 : Int32)), .val (.long k1), .second, .val (.long v1), .second, .val (.long k2), .second, .val (.long v2), .second, .val (.long k3), .second, .val (.long v3), .second, .val (.ref b1o), .val (.long (p4.toInt64)), .second, .unset, .unset, .unset, .unset, .unset, .unset, .unset, .unset, .unset, .unset, .unset]) rfl ?_
  show Steps p.tables e below (T6.setTop (mkF m 160 #[.val (.long q1), .second, .val (.long q2), .second, .val (.long q3), .second, .val (.int p4), .val (.int p5), .val (.int p6), .val (.int (2 : Int32)), .val (.long k1), .second, .val (.long v1), .second, .val (.long k2), .second, .val (.long v2), .second, .val (.long k3), .second, .val (.long v3), .second, .val (.ref b1o), .val (.long (p4.toInt64)), .second, .unset, .unset, .unset, .unset, .unset, .unset, .unset, .unset, .unset, .unset, .unset] [])) _
  rw [← hff]
  show Steps p.tables e below (T6.setTop (mkF m 160 #[.val (.long q1), .second, .val (.long q2), .second, .val (.long q3), .second, .val (.int p4), .val (.int p5), .val (.int p6), .val (.int (2 : Int32)), .val (.long k1), .second, .val (.long v1), .second, .val (.long k2), .second, .val (.long v2), .second, .val (.long k3), .second, .val (.long v3), .second, .val (.ref b1o), .val (.long ff), .second, .unset, .unset, .unset, .unset, .unset, .unset, .unset, .unset, .unset, .unset, .unset] [])) _
  refine XS.iload X6.here hx rfl (hb hby at_160) rfl ?_
  refine XS.i2l X6.here hx rfl (hb hby at_162) rfl ?_
  refine XS.lstore X6.here hx rfl (hb hby at_163) rfl (l' := #[.val (.long q1), .second, .val (.long q2), .second, .val (.long q3), .second, .val (.int p4), .val (.int p5), .val (.int p6), .val (.int (2 : Int32)), .val (.long k1), .second, .val (.long v1), .second, .val (.long k2), .second, .val (.long v2), .second, .val (.long k3), .second, .val (.long v3), .second, .val (.ref b1o), .val (.long ff), .second, .val (.long (p5.toInt64)), .second, .unset, .unset, .unset, .unset, .unset, .unset, .unset, .unset, .unset]) rfl ?_
  show Steps p.tables e below (T6.setTop (mkF m 165 #[.val (.long q1), .second, .val (.long q2), .second, .val (.long q3), .second, .val (.int p4), .val (.int p5), .val (.int p6), .val (.int (2 : Int32)), .val (.long k1), .second, .val (.long v1), .second, .val (.long k2), .second, .val (.long v2), .second, .val (.long k3), .second, .val (.long v3), .second, .val (.ref b1o), .val (.long ff), .second, .val (.long (p5.toInt64)), .second, .unset, .unset, .unset, .unset, .unset, .unset, .unset, .unset, .unset] [])) _
  rw [← hgg]
  show Steps p.tables e below (T6.setTop (mkF m 165 #[.val (.long q1), .second, .val (.long q2), .second, .val (.long q3), .second, .val (.int p4), .val (.int p5), .val (.int p6), .val (.int (2 : Int32)), .val (.long k1), .second, .val (.long v1), .second, .val (.long k2), .second, .val (.long v2), .second, .val (.long k3), .second, .val (.long v3), .second, .val (.ref b1o), .val (.long ff), .second, .val (.long gg), .second, .unset, .unset, .unset, .unset, .unset, .unset, .unset, .unset, .unset] [])) _
  refine XS.aload X6.here hx rfl (hb hby at_165) rfl rfl ?_
  refine XS.lload X6.here hx rfl (hb hby at_167) rfl ?_
  refine XS.lload X6.here hx rfl (hb hby at_169) rfl ?_
  refine st9.trans ?_
  refine XS.astore X9.here hx rfl (hb hby at_174) rfl rfl (l' := #[.val (.long q1), .second, .val (.long q2), .second, .val (.long q3), .second, .val (.int p4), .val (.int p5), .val (.int p6), .val (.int (2 : Int32)), .val (.long k1), .second, .val (.long v1), .second, .val (.long k2), .second, .val (.long v2), .second, .val (.long k3), .second, .val (.long v3), .second, .val (.ref b1o), .val (.long ff), .second, .val (.long gg), .second, .val (.ref cp), .unset, .unset, .unset, .unset, .unset, .unset, .unset, .unset]) rfl ?_
  refine XS.lload X9.here hx rfl (hb hby at_176) rfl ?_
  refine XS.lload X9.here hx rfl (hb hby at_178) rfl ?_
  refine XS.lmul X9.here hx rfl (hb hby at_180) rfl ?_
  refine XS.lstore X9.here hx rfl (hb hby at_181) rfl (l' := #[.val (.long q1), .second, .val (.long q2), .second, .val (.long q3), .second, .val (.int p4), .val (.int p5), .val (.int p6), .val (.int (2 : Int32)), .val (.long k1), .second, .val (.long v1), .second, .val (.long k2), .second, .val (.long v2), .second, .val (.long k3), .second, .val (.long v3), .second, .val (.ref b1o), .val (.long ff), .second, .val (.long gg), .second, .val (.ref cp), .val (.long (k1 * ff)), .second, .unset, .unset, .unset, .unset, .unset, .unset]) rfl ?_
  refine XS.lload X9.here hx rfl (hb hby at_183) rfl ?_
  refine XS.lload X9.here hx rfl (hb hby at_185) rfl ?_
  refine XS.lmul X9.here hx rfl (hb hby at_187) rfl ?_
  refine XS.lstore X9.here hx rfl (hb hby at_188) rfl (l' := #[.val (.long q1), .second, .val (.long q2), .second, .val (.long q3), .second, .val (.int p4), .val (.int p5), .val (.int p6), .val (.int (2 : Int32)), .val (.long k1), .second, .val (.long v1), .second, .val (.long k2), .second, .val (.long v2), .second, .val (.long k3), .second, .val (.long v3), .second, .val (.ref b1o), .val (.long ff), .second, .val (.long gg), .second, .val (.ref cp), .val (.long (k1 * ff)), .second, .val (.long (k2 * ff)), .second, .unset, .unset, .unset, .unset]) rfl ?_
  refine XS.lload X9.here hx rfl (hb hby at_190) rfl ?_
  refine XS.lload X9.here hx rfl (hb hby at_192) rfl ?_
  refine XS.lmul X9.here hx rfl (hb hby at_194) rfl ?_
  refine XS.lstore X9.here hx rfl (hb hby at_195) rfl (l' := #[.val (.long q1), .second, .val (.long q2), .second, .val (.long q3), .second, .val (.int p4), .val (.int p5), .val (.int p6), .val (.int (2 : Int32)), .val (.long k1), .second, .val (.long v1), .second, .val (.long k2), .second, .val (.long v2), .second, .val (.long k3), .second, .val (.long v3), .second, .val (.ref b1o), .val (.long ff), .second, .val (.long gg), .second, .val (.ref cp), .val (.long (k1 * ff)), .second, .val (.long (k2 * ff)), .second, .val (.long (k3 * ff)), .second, .unset, .unset]) rfl ?_
  refine XS.iconst X9.here hx rfl (hb hby at_197) ?_
  refine XS.istore X9.here hx rfl (hb hby at_198) rfl (l' := #[.val (.long q1), .second, .val (.long q2), .second, .val (.long q3), .second, .val (.int p4), .val (.int p5), .val (.int p6), .val (.int (2 : Int32)), .val (.long k1), .second, .val (.long v1), .second, .val (.long k2), .second, .val (.long v2), .second, .val (.long k3), .second, .val (.long v3), .second, .val (.ref b1o), .val (.long ff), .second, .val (.long gg), .second, .val (.ref cp), .val (.long (k1 * ff)), .second, .val (.long (k2 * ff)), .second, .val (.long (k3 * ff)), .second, .val (.int (1 : Int32)), .unset]) rfl ?_
  refine XS.iload X9.here hx rfl (hb hby at_200) rfl ?_
  refine XS.iconst X9.here hx rfl (hb hby at_202) ?_
  refine XS.icmpNo X9.here hx rfl (hb hby at_203) rfl (flt (by decide)).1 ?_
  refine XS.iload X9.here hx rfl (hb hby at_206) rfl ?_
  refine XS.ifNo X9.here hx rfl (hb hby at_208) rfl ((if0 _ _).trans (feq (by decide)).1) ?_
  refine XS.aload X9.here hx rfl (hb hby at_211) rfl rfl ?_
  refine XS.lload X9.here hx rfl (hb hby at_213) rfl ?_
  refine st11.trans ?_
  refine XS.lload X11.here hx rfl (hb hby at_218) rfl ?_
  refine XS.lload X11.here hx rfl (hb hby at_220) rfl ?_
  refine XS.lmul X11.here hx rfl (hb hby at_222) rfl ?_
  refine XS.lcmp X11.here hx rfl (hb hby at_223) rfl ?_
  refine XS.ifNo X11.here hx rfl (hb hby at_224) rfl ((if0 _ _).trans (teq (own_lceq hg11)).2) ?_
  refine XS.aload X11.here hx rfl (hb hby at_227) rfl rfl ?_
  refine XS.lload X11.here hx rfl (hb hby at_229) rfl ?_
  refine st12.trans ?_
  refine XS.lload X12.here hx rfl (hb hby at_234) rfl ?_
  refine XS.lcmp X12.here hx rfl (hb hby at_236) rfl ?_
  refine XS.ifNo X12.here hx rfl (hb hby at_237) rfl ((if0 _ _).trans (teq (own_lceq hg12)).2) ?_
  refine XS.iconst X12.here hx rfl (hb hby at_240) ?_
  refine XS.goto X12.here hx rfl (pc0 := 241) (pc' := 245) rfl (hb hby at_241) (by decide) (by decide) ?_
  show Steps p.tables e below (T12.setTop (mkF m 245 #[.val (.long q1), .second, .val (.long q2), .second, .val (.long q3), .second, .val (.int p4), .val (.int p5), .val (.int p6), .val (.int (2 : Int32)), .val (.long k1), .second, .val (.long v1), .second, .val (.long k2), .second, .val (.long v2), .second, .val (.long k3), .second, .val (.long v3), .second, .val (.ref b1o), .val (.long ff), .second, .val (.long gg), .second, .val (.ref cp), .val (.long (k1 * ff)), .second, .val (.long (k2 * ff)), .second, .val (.long (k3 * ff)), .second, .val (.int (1 : Int32)), .unset] [(.int (1 : Int32))])) _
  refine XS.istore X12.here hx rfl (hb hby at_245) rfl (l' := #[.val (.long q1), .second, .val (.long q2), .second, .val (.long q3), .second, .val (.int p4), .val (.int p5), .val (.int p6), .val (.int (2 : Int32)), .val (.long k1), .second, .val (.long v1), .second, .val (.long k2), .second, .val (.long v2), .second, .val (.long k3), .second, .val (.long v3), .second, .val (.ref b1o), .val (.long ff), .second, .val (.long gg), .second, .val (.ref cp), .val (.long (k1 * ff)), .second, .val (.long (k2 * ff)), .second, .val (.long (k3 * ff)), .second, .val (.int (1 : Int32)), .unset]) rfl ?_
  refine XS.iload X12.here hx rfl (hb hby at_247) rfl ?_
  refine XS.iconst X12.here hx rfl (hb hby at_249) ?_
  refine XS.icmpNo X12.here hx rfl (hb hby at_250) rfl (flt (by decide)).1 ?_
  refine XS.iload X12.here hx rfl (hb hby at_253) rfl ?_
  refine XS.ifNo X12.here hx rfl (hb hby at_255) rfl ((if0 _ _).trans (feq (by decide)).1) ?_
  refine XS.aload X12.here hx rfl (hb hby at_258) rfl rfl ?_
  refine XS.lload X12.here hx rfl (hb hby at_260) rfl ?_
  refine st17.trans ?_
  refine XS.lload X17.here hx rfl (hb hby at_265) rfl ?_
  refine XS.lload X17.here hx rfl (hb hby at_267) rfl ?_
  refine XS.lmul X17.here hx rfl (hb hby at_269) rfl ?_
  refine XS.lcmp X17.here hx rfl (hb hby at_270) rfl ?_
  refine XS.ifNo X17.here hx rfl (hb hby at_271) rfl ((if0 _ _).trans (teq (own_lceq hg17)).2) ?_
  refine XS.iconst X17.here hx rfl (hb hby at_274) ?_
  refine XS.goto X17.here hx rfl (pc0 := 275) (pc' := 279) rfl (hb hby at_275) (by decide) (by decide) ?_
  refine XS.istore X17.here hx rfl (hb hby at_279) rfl (l' := #[.val (.long q1), .second, .val (.long q2), .second, .val (.long q3), .second, .val (.int p4), .val (.int p5), .val (.int p6), .val (.int (2 : Int32)), .val (.long k1), .second, .val (.long v1), .second, .val (.long k2), .second, .val (.long v2), .second, .val (.long k3), .second, .val (.long v3), .second, .val (.ref b1o), .val (.long ff), .second, .val (.long gg), .second, .val (.ref cp), .val (.long (k1 * ff)), .second, .val (.long (k2 * ff)), .second, .val (.long (k3 * ff)), .second, .val (.int (1 : Int32)), .unset]) rfl ?_
  refine XS.iload X17.here hx rfl (hb hby at_281) rfl ?_
  refine XS.iconst X17.here hx rfl (hb hby at_283) ?_
  refine XS.icmpYes X17.here hx rfl (pc0 := 284) (pc' := 315) rfl (hb hby at_284) rfl (tlt (by decide)).1 (by decide) (by decide) ?_
  refine XS.aload X17.here hx rfl (hb hby at_315) rfl rfl ?_
  refine st18.trans ?_
  refine XS.astore X18.here hx rfl (hb hby at_320) rfl rfl (l' := #[.val (.long q1), .second, .val (.long q2), .second, .val (.long q3), .second, .val (.int p4), .val (.int p5), .val (.int p6), .val (.int (2 : Int32)), .val (.long k1), .second, .val (.long v1), .second, .val (.long k2), .second, .val (.long v2), .second, .val (.long k3), .second, .val (.long v3), .second, .val (.ref b1o), .val (.long ff), .second, .val (.long gg), .second, .val (.ref cp), .val (.long (k1 * ff)), .second, .val (.long (k2 * ff)), .second, .val (.long (k3 * ff)), .second, .val (.int (1 : Int32)), .val (.ref sa18)]) rfl ?_
  refine XS.aload X18.here hx rfl (hb hby at_322) rfl rfl ?_
  refine X18.arraylength hx Ar19.1 (State.isArrayOf_alike hZ.alike Ar19.2.1) (g := (mkF m 324 #[.val (.long q1), .second, .val (.long q2), .second, .val (.long q3), .second, .val (.int p4), .val (.int p5), .val (.int p6), .val (.int (2 : Int32)), .val (.long k1), .second, .val (.long v1), .second, .val (.long k2), .second, .val (.long v2), .second, .val (.long k3), .second, .val (.long v3), .second, .val (.ref b1o), .val (.long ff), .second, .val (.long gg), .second, .val (.ref cp), .val (.long (k1 * ff)), .second, .val (.long (k2 * ff)), .second, .val (.long (k3 * ff)), .second, .val (.int (1 : Int32)), .val (.ref sa18)] [(.ref sa18)])) rfl rfl (hb hby at_324) _ ?_
  rw [len_of Sz19 Nn19]
  show Steps p.tables e below (T18.setTop (mkF m 325 #[.val (.long q1), .second, .val (.long q2), .second, .val (.long q3), .second, .val (.int p4), .val (.int p5), .val (.int p6), .val (.int (2 : Int32)), .val (.long k1), .second, .val (.long v1), .second, .val (.long k2), .second, .val (.long v2), .second, .val (.long k3), .second, .val (.long v3), .second, .val (.ref b1o), .val (.long ff), .second, .val (.long gg), .second, .val (.ref cp), .val (.long (k1 * ff)), .second, .val (.long (k2 * ff)), .second, .val (.long (k3 * ff)), .second, .val (.int (1 : Int32)), .val (.ref sa18)] [(.int (2 : Int32))])) _
  refine XS.iload X18.here hx rfl (hb hby at_325) rfl ?_
  refine XS.icmpYes X18.here hx rfl (pc0 := 327) (pc' := 332) rfl (hb hby at_327) rfl (teq (by decide)).1 (by decide) (by decide) ?_
  refine XS.iload X18.here hx rfl (hb hby at_332) rfl ?_
  refine XS.iconst X18.here hx rfl (hb hby at_334) ?_
  refine XS.icmpNo X18.here hx rfl (hb hby at_335) rfl (flt (by decide)).1 ?_
  refine XS.iload X18.here hx rfl (hb hby at_338) rfl ?_
  refine XS.ifNo X18.here hx rfl (hb hby at_340) rfl ((if0 _ _).trans (feq (by decide)).1) ?_
  refine XS.aload X18.here hx rfl (hb hby at_343) rfl rfl ?_
  refine XS.iconst X18.here hx rfl (hb hby at_345) ?_
  refine X18.laload hx (j := (0 : Int32)) (v := (.long y18_0)) Ar20.1 (State.isArrayOf_alike hZ.alike Ar20.2.1) Ar20.2.2 hin21 hat21 (g := (mkF m 346 #[.val (.long q1), .second, .val (.long q2), .second, .val (.long q3), .second, .val (.int p4), .val (.int p5), .val (.int p6), .val (.int (2 : Int32)), .val (.long k1), .second, .val (.long v1), .second, .val (.long k2), .second, .val (.long v2), .second, .val (.long k3), .second, .val (.long v3), .second, .val (.ref b1o), .val (.long ff), .second, .val (.long gg), .second, .val (.ref cp), .val (.long (k1 * ff)), .second, .val (.long (k2 * ff)), .second, .val (.long (k3 * ff)), .second, .val (.int (1 : Int32)), .val (.ref sa18)] [(.int (0 : Int32)), (.ref sa18)])) rfl rfl (hb hby at_346) _ ?_
  refine XS.iload X18.here hx rfl (hb hby at_347) rfl ?_
  refine XS.lload X18.here hx rfl (hb hby at_349) rfl ?_
  refine XS.lload X18.here hx rfl (hb hby at_351) rfl ?_
  refine XS.lload X18.here hx rfl (hb hby at_353) rfl ?_
  refine st22 _ ?_
  refine XS.ifNo X22.here hx rfl (hb hby at_358) rfl ((if0 _ _).trans (feq (by rw [hr22, if_pos (hE _ ((mem18 _).mpr (Or.inl rfl)))]; decide)).1) ?_
  refine XS.iconst X22.here hx rfl (hb hby at_361) ?_
  refine XS.goto X22.here hx rfl (pc0 := 362) (pc' := 366) rfl (hb hby at_362) (by decide) (by decide) ?_
  refine XS.istore X22.here hx rfl (hb hby at_366) rfl (l' := #[.val (.long q1), .second, .val (.long q2), .second, .val (.long q3), .second, .val (.int p4), .val (.int p5), .val (.int p6), .val (.int (2 : Int32)), .val (.long k1), .second, .val (.long v1), .second, .val (.long k2), .second, .val (.long v2), .second, .val (.long k3), .second, .val (.long v3), .second, .val (.ref b1o), .val (.long ff), .second, .val (.long gg), .second, .val (.ref cp), .val (.long (k1 * ff)), .second, .val (.long (k2 * ff)), .second, .val (.long (k3 * ff)), .second, .val (.int (1 : Int32)), .val (.ref sa18)]) rfl ?_
  refine XS.iload X22.here hx rfl (hb hby at_368) rfl ?_
  refine XS.iconst X22.here hx rfl (hb hby at_370) ?_
  refine XS.icmpNo X22.here hx rfl (hb hby at_371) rfl (flt (by decide)).1 ?_
  refine XS.iload X22.here hx rfl (hb hby at_374) rfl ?_
  refine XS.ifNo X22.here hx rfl (hb hby at_376) rfl ((if0 _ _).trans (feq (by decide)).1) ?_
  refine XS.aload X22.here hx rfl (hb hby at_379) rfl rfl ?_
  refine XS.iconst X22.here hx rfl (hb hby at_381) ?_
  refine X22.laload hx (j := (1 : Int32)) (v := (.long y18_1)) (by rw [e22]; exact Ar23.1) (State.isArrayOf_alike hZ.alike Ar23.2.1) Ar23.2.2 hin24 hat24 (g := (mkF m 382 #[.val (.long q1), .second, .val (.long q2), .second, .val (.long q3), .second, .val (.int p4), .val (.int p5), .val (.int p6), .val (.int (2 : Int32)), .val (.long k1), .second, .val (.long v1), .second, .val (.long k2), .second, .val (.long v2), .second, .val (.long k3), .second, .val (.long v3), .second, .val (.ref b1o), .val (.long ff), .second, .val (.long gg), .second, .val (.ref cp), .val (.long (k1 * ff)), .second, .val (.long (k2 * ff)), .second, .val (.long (k3 * ff)), .second, .val (.int (1 : Int32)), .val (.ref sa18)] [(.int (1 : Int32)), (.ref sa18)])) rfl rfl (hb hby at_382) _ ?_
  refine XS.iload X22.here hx rfl (hb hby at_383) rfl ?_
  refine XS.lload X22.here hx rfl (hb hby at_385) rfl ?_
  refine XS.lload X22.here hx rfl (hb hby at_387) rfl ?_
  refine XS.lload X22.here hx rfl (hb hby at_389) rfl ?_
  refine st25 _ ?_
  refine XS.ifNo X25.here hx rfl (hb hby at_394) rfl ((if0 _ _).trans (feq (by rw [hr25, if_pos (hE _ ((mem18 _).mpr (Or.inr rfl)))]; decide)).1) ?_
  refine XS.aload X25.here hx rfl (hb hby at_397) rfl rfl ?_
  refine XS.iconst X25.here hx rfl (hb hby at_399) ?_
  refine X25.laload hx (j := (0 : Int32)) (v := (.long y18_0)) (by rw [e25]; exact Ar26.1) (State.isArrayOf_alike hZ.alike Ar26.2.1) Ar26.2.2 hin27 hat27 (g := (mkF m 400 #[.val (.long q1), .second, .val (.long q2), .second, .val (.long q3), .second, .val (.int p4), .val (.int p5), .val (.int p6), .val (.int (2 : Int32)), .val (.long k1), .second, .val (.long v1), .second, .val (.long k2), .second, .val (.long v2), .second, .val (.long k3), .second, .val (.long v3), .second, .val (.ref b1o), .val (.long ff), .second, .val (.long gg), .second, .val (.ref cp), .val (.long (k1 * ff)), .second, .val (.long (k2 * ff)), .second, .val (.long (k3 * ff)), .second, .val (.int (1 : Int32)), .val (.ref sa18)] [(.int (0 : Int32)), (.ref sa18)])) rfl rfl (hb hby at_400) _ ?_
  refine XS.aload X25.here hx rfl (hb hby at_401) rfl rfl ?_
  refine XS.iconst X25.here hx rfl (hb hby at_403) ?_
  refine X25.laload hx (j := (1 : Int32)) (v := (.long y18_1)) (by rw [e25]; exact Ar28.1) (State.isArrayOf_alike hZ.alike Ar28.2.1) Ar28.2.2 hin29 hat29 (g := (mkF m 404 #[.val (.long q1), .second, .val (.long q2), .second, .val (.long q3), .second, .val (.int p4), .val (.int p5), .val (.int p6), .val (.int (2 : Int32)), .val (.long k1), .second, .val (.long v1), .second, .val (.long k2), .second, .val (.long v2), .second, .val (.long k3), .second, .val (.long v3), .second, .val (.ref b1o), .val (.long ff), .second, .val (.long gg), .second, .val (.ref cp), .val (.long (k1 * ff)), .second, .val (.long (k2 * ff)), .second, .val (.long (k3 * ff)), .second, .val (.int (1 : Int32)), .val (.ref sa18)] [(.int (1 : Int32)), (.ref sa18), (.long y18_0)])) rfl rfl (hb hby at_404) _ ?_
  refine XS.lcmp X25.here hx rfl (hb hby at_405) rfl ?_
  show Steps p.tables e below (T25.setTop (mkF m 406 #[.val (.long q1), .second, .val (.long q2), .second, .val (.long q3), .second, .val (.int p4), .val (.int p5), .val (.int p6), .val (.int (2 : Int32)), .val (.long k1), .second, .val (.long v1), .second, .val (.long k2), .second, .val (.long v2), .second, .val (.long k3), .second, .val (.long v3), .second, .val (.ref b1o), .val (.long ff), .second, .val (.long gg), .second, .val (.ref cp), .val (.long (k1 * ff)), .second, .val (.long (k2 * ff)), .second, .val (.long (k3 * ff)), .second, .val (.int (1 : Int32)), .val (.ref sa18)] [(.int (lcmpW y18_0 y18_1))])) _
  refine XS.ifNo X25.here hx rfl (hb hby at_406) rfl ((if0 _ _).trans (tlt (own_lclt str18)).2.1) ?_
  refine XS.iconst X25.here hx rfl (hb hby at_409) ?_
  refine XS.goto X25.here hx rfl (pc0 := 410) (pc' := 414) rfl (hb hby at_410) (by decide) (by decide) ?_
  refine XS.istore X25.here hx rfl (hb hby at_414) rfl (l' := #[.val (.long q1), .second, .val (.long q2), .second, .val (.long q3), .second, .val (.int p4), .val (.int p5), .val (.int p6), .val (.int (2 : Int32)), .val (.long k1), .second, .val (.long v1), .second, .val (.long k2), .second, .val (.long v2), .second, .val (.long k3), .second, .val (.long v3), .second, .val (.ref b1o), .val (.long ff), .second, .val (.long gg), .second, .val (.ref cp), .val (.long (k1 * ff)), .second, .val (.long (k2 * ff)), .second, .val (.long (k3 * ff)), .second, .val (.int (1 : Int32)), .val (.ref sa18)]) rfl ?_
  refine XS.iload X25.here hx rfl (hb hby at_416) rfl ?_
  refine XS.iconst X25.here hx rfl (hb hby at_418) ?_
  refine XS.icmpYes X25.here hx rfl (pc0 := 419) (pc' := 464) rfl (hb hby at_419) rfl (tlt (by decide)).1 (by decide) (by decide) ?_
  refine XS.iload X25.here hx rfl (hb hby at_464) rfl ?_
  exact kt
set_option maxRecDepth 65536 in
set_option maxHeartbeats 40000000 in
theorem own_tl3 {p : Program} {l : Launch} {e : Env} {s : State} {m : MethodId} {below : List Frame} {meth : Method} {c : Code} {T0 : State} {L0 : List Loc} {Z : State} {a0 : Array Value} {h0 : Heap} {n0 : Nat} {q1 q2 q3 k1 v1 k2 v2 k3 v3 : Int64} {p4 p5 p6 : Int32} (hx : p.tables.exec = Jvm.exec) (hZ : Z.Warmed39 s.vm) (hw : ∀ d ∈ tables_1, d.before a0 Z = true) (hby : c.code = code) (hml : c.maxLocals = 36) (hown : s.vm.findClass "com/example/pricewright/pricewright/core/LongSumTableScaledPinLaw" = some m.cls) (X0 : Stand p l e room_1 s m #[.long q1, .long q2, .long q3, .int p4, .int p5, .int p6] below meth c T0 L0 0 0) (e0 : T0.heap = h0) (N0 : Fr n0 L0) (Z0 : n0 ≤ h0.size) (hB1 : own_B k1) (hB2 : own_B k2) (hB3 : own_B k3) (hC1 : own_B v1) (hC2 : own_B v2) (hC3 : own_B v3) (hkf : ¬ p4 = (0 : Int32)) (h12 : ¬ k1 = k2) (h31 : ¬ k3 = k1) (h32 : ¬ k3 = k2) :
    ∃ (T' : State) (L' : List Loc) (Ls : Array Slot), Stand p l e room_1 s m #[.long q1, .long q2, .long q3, .int p4, .int p5, .int p6] below meth c T' L' (11) (95) ∧ Fr n0 L' ∧ ∀ target, Steps p.tables e below (T'.setTop (mkF m 466 Ls [.int (1 : Int32)])) target → Steps p.tables e below (T0.setTop (mkF m 101 #[.val (.long q1), .second, .val (.long q2), .second, .val (.long q3), .second, .val (.int p4), .val (.int p5), .val (.int p6), .val (.int (3 : Int32)), .val (.long k1), .second, .val (.long v1), .second, .val (.long k2), .second, .val (.long v2), .second, .val (.long k3), .second, .val (.long v3), .second, .unset, .unset, .unset, .unset, .unset, .unset, .unset, .unset, .unset, .unset, .unset, .unset, .unset, .unset] [])) target := by
  have h21 : ¬ k2 = k1 := fun w => h12 w.symm
  have h13 : ¬ k1 = k3 := fun w => h31 w.symm
  have h23 : ¬ k2 = k3 := fun w => h32 w.symm
  obtain ⟨T1, h1, X1, e1, E1, A1, D1, -, st1⟩ := newO X0 hx hZ hown (hw _ (own_w 0 rfl)) (hw _ (own_w 1 rfl)) (hw _ (own_w 2 rfl)) e0 (g := (mkF m 101 #[.val (.long q1), .second, .val (.long q2), .second, .val (.long q3), .second, .val (.int p4), .val (.int p5), .val (.int p6), .val (.int (3 : Int32)), .val (.long k1), .second, .val (.long v1), .second, .val (.long k2), .second, .val (.long v2), .second, .val (.long k3), .second, .val (.long v3), .second, .unset, .unset, .unset, .unset, .unset, .unset, .unset, .unset, .unset, .unset, .unset, .unset, .unset, .unset] [])) rfl (hb hby at_101) (by decide) (by decide)
  obtain ⟨b1o, g1⟩ : ∃ z, z = h0.size := ⟨_, rfl⟩
  have b1 : n0 ≤ b1o := Nat.le_trans Z0 (Nat.le_of_eq g1.symm)
  rw [← g1] at A1 D1 st1
  have Z1 : n0 ≤ h1.size := Nat.le_trans Z0 E1.1
  have F1_14 : Fld Z h1 b1o "com/example/pricewright/pricewright/core/LongSumTable" "slots" "[J" .null := D1 (Or.inl (hw _ (own_w 14 rfl))) (ty := (.array .long)) (by decide)
  have F1_26 : Fld Z h1 b1o "com/example/pricewright/pricewright/core/LongSumTable" "shift" "I" (.int (0 : Int32)) := D1 (Or.inl (hw _ (own_w 26 rfl))) (ty := .int) (by decide)
  have F1_41 : Fld Z h1 b1o "com/example/pricewright/pricewright/core/LongSumTable" "sorted" "[J" .null := D1 (Or.inl (hw _ (own_w 41 rfl))) (ty := (.array .long)) (by decide)
  have F1_43 : Fld Z h1 b1o "com/example/pricewright/pricewright/core/LongSumTable" "size" "I" (.int (0 : Int32)) := D1 (Or.inl (hw _ (own_w 43 rfl))) (ty := .int) (by decide)
  obtain ⟨_, _, ⟨T2, Lq2, kq2, nq2⟩, -, X2, ⟨Lc2, hQ2, lq2, yq2, zq2⟩, st2⟩ := X1.specialBack hx (y := (⟨"com/example/pricewright/pricewright/core/LongSumTable", "<init>", "()V"⟩ : MethodName)) rfl hown (mvT hZ (hw _ (own_w 3 rfl))) (mvT hZ (hw _ (own_w 4 rfl))) (mvT hZ (hw _ (own_w 5 rfl))) (by decide) (backOf (W := 1) (rmI0 l Z a0 hw [] b1o  h1 n0 Z1 A1 F1_14 F1_26 F1_43 F1_41 b1) hZ (hw _ (own_w 5 rfl)) (hw _ (own_w 2 rfl)) (by decide) (by decide)) (g := (mkF m 105 #[.val (.long q1), .second, .val (.long q2), .second, .val (.long q3), .second, .val (.int p4), .val (.int p5), .val (.int p6), .val (.int (3 : Int32)), .val (.long k1), .second, .val (.long v1), .second, .val (.long k2), .second, .val (.long v2), .second, .val (.long k3), .second, .val (.long v3), .second, .unset, .unset, .unset, .unset, .unset, .unset, .unset, .unset, .unset, .unset, .unset, .unset, .unset, .unset] [(.ref b1o), (.ref b1o)])) rfl (by rw [hml]; rfl) (Steps.refl _) (a := b1o) (argsL := []) (rest := [(.ref b1o)]) (lenOf pd_10 rfl) rfl (by show 2 * 0 + _ ≤ _; exact Nat.le_of_eq rfl) (hb hby at_105) (fun _ _ => ⟨rfl, e1, (by decide : 1 + 1 ≤ _), (by decide : 4 + 8 ≤ _)⟩)
  dsimp only [Pt.U, Pt.locs, Pt.cells, Pt.slots] at X2 lq2 yq2 zq2 st2 hQ2
  subst lq2 yq2 zq2
  obtain ⟨rfl, N2q, KC2, u2⟩ := hQ2
  have N2 := Fr.app N0 N2q
  have Z2 : n0 ≤ T2.heap.size := Nat.le_trans Z1 KC2.1
  obtain ⟨sa2, sk2, ga2, gk2, EI2, FS2, FH2, FZ2, FQ2, AV2⟩ := id u2
  have net2 : b1o ≠ sa2 := ne_arrV (EI2) (hw _ (own_w 1 rfl)) AV2
  have rp2e := own_rep_empty (W := own_W own_new4) (hs := own_hs 4) own_new4K
  have fr2e : ∃ j, j < 4 ∧ own_K own_new4 j = own_FREE := ⟨0, by decide, own_new4K 0 (by decide)⟩
  obtain ⟨cq3, kz3, q3a, q3b, q3c⟩ := isOf hZ rfl EI2
  obtain ⟨_, _, ⟨T3, Lq3, kq3, nq3⟩, -, X3, ⟨Lc3, hQ3, lq3, yq3, zq3⟩, st3⟩ := X2.virtualBack hx (y := (⟨"com/example/pricewright/pricewright/core/LongSumTable", "add", "(JJ)V"⟩ : MethodName)) (z := (⟨"com/example/pricewright/pricewright/core/LongSumTable", "add", "(JJ)V"⟩ : MethodName)) hown (mvT hZ (hw _ (own_w 27 rfl))) (mvT hZ (hw _ (own_w 28 rfl))) (notFace_of_selects (args := #[]) (mvT hZ (hw _ (own_w 30 rfl)))) (mvT hZ (hw _ (own_w 30 rfl))) (mvT hZ (hw _ (own_w 29 rfl))) (by decide) (backOf (W := 0) (rmA l Z a0 hw [] b1o k1 v1 sa2 sk2 own_new4 (fun _ => False) (fun _ => 0) (0) .null T2.heap n0 Z2 EI2 FS2 FH2 FZ2 FQ2 AV2 (rfl : own_new4.length = 2 * 4) net2 b1 ga2 rp2e (Nat.zero_le 2) (own_Bne hB1) (fun h => h.elim)) hZ (hw _ (own_w 31 rfl)) (hw _ (own_w 2 rfl)) (by decide) (by decide)) q3a q3c (g := (mkF m 122 #[.val (.long q1), .second, .val (.long q2), .second, .val (.long q3), .second, .val (.int p4), .val (.int p5), .val (.int p6), .val (.int (3 : Int32)), .val (.long k1), .second, .val (.long v1), .second, .val (.long k2), .second, .val (.long v2), .second, .val (.long k3), .second, .val (.long v3), .second, .val (.ref b1o), .unset, .unset, .unset, .unset, .unset, .unset, .unset, .unset, .unset, .unset, .unset, .unset, .unset] [(.long v1), (.long k1), (.ref b1o)])) rfl (by rw [hml]; rfl) (Steps.refl _) (argsL := [(.long k1), (.long v1)]) (rest := []) (lenOf pd_3 rfl) rfl (by show 2 * 0 + _ ≤ _; exact Nat.le_of_eq rfl) (hb hby at_122) (fun _ _ => ⟨rfl, rfl, (by decide : 2 + 2 ≤ _), (by decide : 12 + 20 ≤ _)⟩)
  dsimp only [Pt.U, Pt.locs, Pt.cells, Pt.slots] at X3 lq3 yq3 zq3 st3 hQ3
  subst lq3 yq3 zq3
  obtain ⟨rfl, N3q, Z3, KA3, nn3, sz3, so3, D3, M3, hD3, hM3, ⟨ta3, tk3, ta3r, ts3, hn3, tg3, tE3, tS3, tH3, tZ3, tQ3, tA3, tl3, tr3⟩, hc3, hl3, hy3, ho3⟩ := hQ3
  have N3 := Fr.app N2 N3q
  obtain ⟨rfl, hz3⟩ : nn3 = 4 ∧ sz3 ≤ 2 := by omega
  obtain rfl := own_sh62 hn3
  have tf3 : ∃ j, j < 4 ∧ own_K ta3r j = own_FREE := own_cnt_free (by rw [tr3.2.2.2]; omega)
  have ne5 : b1o ≠ ta3 := ne_arrV tE3 (hw _ (own_w 1 rfl)) tA3
  obtain ⟨hz3', hso3'⟩ := ho3 (fun h => h.elim)
  subst hz3' hso3'
  obtain ⟨cq6, kz6, q6a, q6b, q6c⟩ := isOf hZ rfl tE3
  obtain ⟨_, _, ⟨T6, Lq6, kq6, nq6⟩, -, X6, ⟨Lc6, hQ6, lq6, yq6, zq6⟩, st6⟩ := X3.virtualBack hx (y := (⟨"com/example/pricewright/pricewright/core/LongSumTable", "add", "(JJ)V"⟩ : MethodName)) (z := (⟨"com/example/pricewright/pricewright/core/LongSumTable", "add", "(JJ)V"⟩ : MethodName)) hown (mvT hZ (hw _ (own_w 27 rfl))) (mvT hZ (hw _ (own_w 28 rfl))) (notFace_of_selects (args := #[]) (mvT hZ (hw _ (own_w 30 rfl)))) (mvT hZ (hw _ (own_w 30 rfl))) (mvT hZ (hw _ (own_w 29 rfl))) (by decide) (backOf (W := 0) (rmA l Z a0 hw [] b1o k2 v2 ta3 tk3 ta3r D3 M3 (1) .null T3.heap n0 Z3 tE3 tS3 tH3 tZ3 tQ3 tA3 tl3 ne5 b1 tg3 tr3 (by decide) (own_Bne hB2) (fun h => by simp [hD3, h12, h21, h31, h13, h32, h23] at h)) hZ (hw _ (own_w 31 rfl)) (hw _ (own_w 2 rfl)) (by decide) (by decide)) q6a q6c (g := (mkF m 137 #[.val (.long q1), .second, .val (.long q2), .second, .val (.long q3), .second, .val (.int p4), .val (.int p5), .val (.int p6), .val (.int (3 : Int32)), .val (.long k1), .second, .val (.long v1), .second, .val (.long k2), .second, .val (.long v2), .second, .val (.long k3), .second, .val (.long v3), .second, .val (.ref b1o), .unset, .unset, .unset, .unset, .unset, .unset, .unset, .unset, .unset, .unset, .unset, .unset, .unset] [(.long v2), (.long k2), (.ref b1o)])) rfl (by rw [hml]; rfl) (Steps.refl _) (argsL := [(.long k2), (.long v2)]) (rest := []) (lenOf pd_3 rfl) rfl (by show 2 * 0 + _ ≤ _; exact Nat.le_of_eq rfl) (hb hby at_137) (fun _ _ => ⟨rfl, rfl, (by decide : 4 + 2 ≤ _), (by decide : 32 + 20 ≤ _)⟩)
  dsimp only [Pt.U, Pt.locs, Pt.cells, Pt.slots] at X6 lq6 yq6 zq6 st6 hQ6
  subst lq6 yq6 zq6
  obtain ⟨rfl, N6q, Z6, KA6, nn6, sz6, so6, D6, M6, hD6, hM6, ⟨ta6, tk6, ta6r, ts6, hn6, tg6, tE6, tS6, tH6, tZ6, tQ6, tA6, tl6, tr6⟩, hc6, hl6, hy6, ho6⟩ := hQ6
  have N6 := Fr.app N3 N6q
  obtain ⟨rfl, hz6⟩ : nn6 = 4 ∧ sz6 ≤ 2 := by omega
  obtain rfl := own_sh62 hn6
  have tf6 : ∃ j, j < 4 ∧ own_K ta6r j = own_FREE := own_cnt_free (by rw [tr6.2.2.2]; omega)
  have ne8 : b1o ≠ ta6 := ne_arrV tE6 (hw _ (own_w 1 rfl)) tA6
  obtain ⟨hz6', hso6'⟩ := ho6 (fun h => by simp [hD3, h12, h21, h31, h13, h32, h23] at h)
  subst hz6' hso6'
  obtain ⟨cq9, kz9, q9a, q9b, q9c⟩ := isOf hZ rfl tE6
  obtain ⟨_, _, ⟨T9, Lq9, kq9, nq9⟩, -, X9, ⟨Lc9, hQ9, lq9, yq9, zq9⟩, st9⟩ := X6.virtualBack hx (y := (⟨"com/example/pricewright/pricewright/core/LongSumTable", "add", "(JJ)V"⟩ : MethodName)) (z := (⟨"com/example/pricewright/pricewright/core/LongSumTable", "add", "(JJ)V"⟩ : MethodName)) hown (mvT hZ (hw _ (own_w 27 rfl))) (mvT hZ (hw _ (own_w 28 rfl))) (notFace_of_selects (args := #[]) (mvT hZ (hw _ (own_w 30 rfl)))) (mvT hZ (hw _ (own_w 30 rfl))) (mvT hZ (hw _ (own_w 29 rfl))) (by decide) (backOf (W := 0) (rmA l Z a0 hw [] b1o k3 v3 ta6 tk6 ta6r D6 M6 (2) .null T6.heap n0 Z6 tE6 tS6 tH6 tZ6 tQ6 tA6 tl6 ne8 b1 tg6 tr6 (by decide) (own_Bne hB3) (fun h => by simp [hD6, hD3, h12, h21, h31, h13, h32, h23] at h)) hZ (hw _ (own_w 31 rfl)) (hw _ (own_w 2 rfl)) (by decide) (by decide)) q9a q9c (g := (mkF m 152 #[.val (.long q1), .second, .val (.long q2), .second, .val (.long q3), .second, .val (.int p4), .val (.int p5), .val (.int p6), .val (.int (3 : Int32)), .val (.long k1), .second, .val (.long v1), .second, .val (.long k2), .second, .val (.long v2), .second, .val (.long k3), .second, .val (.long v3), .second, .val (.ref b1o), .unset, .unset, .unset, .unset, .unset, .unset, .unset, .unset, .unset, .unset, .unset, .unset, .unset] [(.long v3), (.long k3), (.ref b1o)])) rfl (by rw [hml]; rfl) (Steps.refl _) (argsL := [(.long k3), (.long v3)]) (rest := []) (lenOf pd_3 rfl) rfl (by show 2 * 0 + _ ≤ _; exact Nat.le_of_eq rfl) (hb hby at_152) (fun _ _ => ⟨rfl, rfl, (by decide : 6 + 2 ≤ _), (by decide : 52 + 20 ≤ _)⟩)
  dsimp only [Pt.U, Pt.locs, Pt.cells, Pt.slots] at X9 lq9 yq9 zq9 st9 hQ9
  subst lq9 yq9 zq9
  obtain ⟨rfl, N9q, Z9, KA9, nn9, sz9, so9, D9, M9, hD9, hM9, ⟨ta9, tk9, ta9r, ts9, hn9, tg9, tE9, tS9, tH9, tZ9, tQ9, tA9, tl9, tr9⟩, hc9, hl9, hy9, ho9⟩ := hQ9
  have N9 := Fr.app N6 N9q
  have tf9 : ∃ j, j < nn9 ∧ own_K ta9r j = own_FREE := own_cnt_free (by rw [tr9.2.2.2]; omega)
  have ne11 : b1o ≠ ta9 := ne_arrV tE9 (hw _ (own_w 1 rfl)) tA9
  obtain ⟨hz9', hso9'⟩ := ho9 (fun h => by simp [hD6, hD3, h12, h21, h31, h13, h32, h23] at h)
  subst hz9' hso9'
  obtain rfl : nn9 = 8 := by omega
  obtain rfl := own_sh61 hn9
  obtain ⟨ff, hff⟩ : ∃ z : Int64, z = (p4.toInt64) := ⟨_, rfl⟩
  have hBf : own_B ff := by rw [hff]; exact own_Bi p4
  have hf0 : ¬ ff = (0 : Int64) := by rw [hff]; exact own_i2l0 hkf
  obtain ⟨gg, hgg⟩ : ∃ z : Int64, z = (p5.toInt64) := ⟨_, rfl⟩
  have hBg : own_B gg := by rw [hgg]; exact own_Bi p5
  have hDs : ∀ x : Int64, D9 x ↔ (x = k1 ∨ x = k2 ∨ x = k3) := fun x => by simp [hD9, hD6, hD3, or_assoc]
  have hv1 : M9 k1 = v1 := by simp [hM9, hM6, hM3, h12, h21, h31, h13, h32, h23]
  have hd1 : D9 k1 := (hDs k1).mpr (by simp)
  have hv2 : M9 k2 = v2 := by simp [hM9, hM6, hM3, h12, h21, h31, h13, h32, h23]
  have hd2 : D9 k2 := (hDs k2).mpr (by simp)
  have hv3 : M9 k3 = v3 := by simp [hM9, hM6, hM3, h12, h21, h31, h13, h32, h23]
  have hd3 : D9 k3 := (hDs k3).mpr (by simp)
  have hbD : ∀ x : Int64, D9 x → own_B x ∧ own_B (M9 x) := fun x w => by
    rcases (hDs x).mp w with e1 | e2 | e3
    · rw [e1]; exact ⟨hB1, by rw [hv1]; exact hC1⟩
    · rw [e2]; exact ⟨hB2, by rw [hv2]; exact hC2⟩
    · rw [e3]; exact ⟨hB3, by rw [hv3]; exact hC3⟩
  obtain ⟨cq12, kz12, q12a, q12b, q12c⟩ := isOf hZ rfl tE9
  obtain ⟨_, _, ⟨T12, Lq12, kq12, nq12⟩, -, X12, ⟨Lc12, hQ12, lq12, yq12, zq12⟩, st12⟩ := X9.virtualBack hx (y := (⟨"com/example/pricewright/pricewright/core/LongSumTable", "scaled", "(JJ)Lcom/example/pricewright/pricewright/core/LongSumTable;"⟩ : MethodName)) (z := (⟨"com/example/pricewright/pricewright/core/LongSumTable", "scaled", "(JJ)Lcom/example/pricewright/pricewright/core/LongSumTable;"⟩ : MethodName)) hown (mvT hZ (hw _ (own_w 44 rfl))) (mvT hZ (hw _ (own_w 45 rfl))) (notFace_of_selects (args := #[]) (mvT hZ (hw _ (own_w 47 rfl)))) (mvT hZ (hw _ (own_w 47 rfl))) (mvT hZ (hw _ (own_w 46 rfl))) (by decide) (backOf (W := 0) (rmC8 l Z a0 hw [] b1o ff gg ta9 tk9 ta9r D9 M9 (3) T9.heap n0 Z9 tE9 tS9 tZ9 tA9 ne11 tr9 hBf hBg hbD (fun x y w u q => own_mulI (hbD x w).1 (hbD y u).1 hBf hf0 q)) hZ (hw _ (own_w 48 rfl)) (hw _ (own_w 2 rfl)) (by decide) (by decide)) q12a q12c (g := (mkF m 171 #[.val (.long q1), .second, .val (.long q2), .second, .val (.long q3), .second, .val (.int p4), .val (.int p5), .val (.int p6), .val (.int (3 : Int32)), .val (.long k1), .second, .val (.long v1), .second, .val (.long k2), .second, .val (.long v2), .second, .val (.long k3), .second, .val (.long v3), .second, .val (.ref b1o), .val (.long ff), .second, .val (.long gg), .second, .unset, .unset, .unset, .unset, .unset, .unset, .unset, .unset, .unset] [(.long gg), (.long ff), (.ref b1o)])) rfl (by rw [hml]; rfl) (Steps.refl _) (argsL := [(.long ff), (.long gg)]) (rest := []) (lenOf pd_11 rfl) rfl (by show 2 * 0 + _ ≤ _; exact Nat.le_of_eq rfl) (hb hby at_171) (fun _ _ => ⟨rfl, rfl, (by decide : 8 + 2 ≤ _), (by decide : 72 + 20 ≤ _)⟩)
  dsimp only [Pt.U, Pt.locs, Pt.cells, Pt.slots] at X12 lq12 yq12 zq12 st12 hQ12
  subst lq12 yq12 zq12
  obtain ⟨cp, rfl, N12q, Z12, KC12, gcp, gz12, D2, M2, ⟨ca, ck, car, csh, chn, cga, cE, cS, cH, cZ, cQ, cA, cl, cr⟩, hD2, hM2⟩ := hQ12
  have N12 := Fr.app N9 N12q
  obtain rfl := own_sh61 chn
  have cf : ∃ j, j < 8 ∧ own_K car j = own_FREE := own_cnt_free (by rw [cr.2.2.2]; decide)
  have ne13 : cp ≠ ca := ne_arrV cE (hw _ (own_w 1 rfl)) cA
  have hE : ∀ x, D2 x → (x = k1 * ff ∨ x = k2 * ff ∨ x = k3 * ff) := fun x w => by
    obtain ⟨y, u, e⟩ := (hD2 x).mp w
    rcases (hDs y).mp u with e1 | e1 | e1 <;> rw [← e, e1] <;> simp
  have hm1 : M2 (k1 * ff) = v1 * gg := by rw [hM2 _ hd1, hv1]
  have hm2 : M2 (k2 * ff) = v2 * gg := by rw [hM2 _ hd2, hv2]
  have hm3 : M2 (k3 * ff) = v3 * gg := by rw [hM2 _ hd3, hv3]
  obtain ⟨cq14, kz14, q14a, q14b, q14c⟩ := isOf hZ rfl cE
  obtain ⟨_, _, ⟨T14, Lq14, kq14, nq14⟩, -, X14, ⟨Lc14, hQ14, lq14, yq14, zq14⟩, st14⟩ := X12.virtualBack hx (y := (⟨"com/example/pricewright/pricewright/core/LongSumTable", "get", "(J)J"⟩ : MethodName)) (z := (⟨"com/example/pricewright/pricewright/core/LongSumTable", "get", "(J)J"⟩ : MethodName)) hown (mvT hZ (hw _ (own_w 61 rfl))) (mvT hZ (hw _ (own_w 62 rfl))) (notFace_of_selects (args := #[]) (mvT hZ (hw _ (own_w 64 rfl)))) (mvT hZ (hw _ (own_w 64 rfl))) (mvT hZ (hw _ (own_w 63 rfl))) (by decide) (backOf (W := 0) (rmG l Z a0 hw [] cp (k1 * ff) ca ck (car) 8 (61 : Int32) T12.heap n0 Z12 (Or.inr ⟨rfl, rfl⟩) cE cS cH cA cf) hZ (hw _ (own_w 65 rfl)) (hw _ (own_w 2 rfl)) (by decide) (by decide)) q14a q14c (g := (mkF m 215 #[.val (.long q1), .second, .val (.long q2), .second, .val (.long q3), .second, .val (.int p4), .val (.int p5), .val (.int p6), .val (.int (3 : Int32)), .val (.long k1), .second, .val (.long v1), .second, .val (.long k2), .second, .val (.long v2), .second, .val (.long k3), .second, .val (.long v3), .second, .val (.ref b1o), .val (.long ff), .second, .val (.long gg), .second, .val (.ref cp), .val (.long (k1 * ff)), .second, .val (.long (k2 * ff)), .second, .val (.long (k3 * ff)), .second, .val (.int (1 : Int32)), .unset] [(.long (k1 * ff)), (.ref cp)])) rfl (by rw [hml]; rfl) (Steps.refl _) (argsL := [(.long (k1 * ff))]) (rest := []) (lenOf pd_4 rfl) rfl (by show 2 * 0 + _ ≤ _; exact Nat.le_of_eq rfl) (hb hby at_215) (fun _ _ => ⟨rfl, rfl, (by decide : 10 + 0 ≤ _), (by decide : 92 + 0 ≤ _)⟩)
  dsimp only [Pt.U, Pt.locs, Pt.cells, Pt.slots] at X14 lq14 yq14 zq14 st14 hQ14
  subst lq14 yq14 zq14
  obtain ⟨r14, hr14, rfl, N14q, e14⟩ := hQ14
  have N14 := Fr.app N12 N14q
  obtain ⟨ig14, hig14, Pg14, hv14⟩ := hr14
  have hg14 : r14 = v1 * gg := by rw [hv14, ← hm1]; exact own_rep_get cr hig14 (own_mulF hB1 hBf) Pg14
  have f16 := (tE9.keep KC12)
  have f17 := (tS9.keep KC12 nin0)
  have f18 := (tH9.keep KC12 nin0)
  have f19 := (tA9.keep KC12 nin0)
  obtain ⟨cq15, kz15, q15a, q15b, q15c⟩ := isOf hZ e14 f16
  obtain ⟨_, _, ⟨T15, Lq15, kq15, nq15⟩, -, X15, ⟨Lc15, hQ15, lq15, yq15, zq15⟩, st15⟩ := X14.virtualBack hx (y := (⟨"com/example/pricewright/pricewright/core/LongSumTable", "get", "(J)J"⟩ : MethodName)) (z := (⟨"com/example/pricewright/pricewright/core/LongSumTable", "get", "(J)J"⟩ : MethodName)) hown (mvT hZ (hw _ (own_w 61 rfl))) (mvT hZ (hw _ (own_w 62 rfl))) (notFace_of_selects (args := #[]) (mvT hZ (hw _ (own_w 64 rfl)))) (mvT hZ (hw _ (own_w 64 rfl))) (mvT hZ (hw _ (own_w 63 rfl))) (by decide) (backOf (W := 0) (rmG l Z a0 hw [] b1o k1 ta9 tk9 (ta9r) 8 (61 : Int32) T12.heap n0 Z12 (Or.inr ⟨rfl, rfl⟩) f16 f17 f18 f19 tf9) hZ (hw _ (own_w 65 rfl)) (hw _ (own_w 2 rfl)) (by decide) (by decide)) q15a q15c (g := (mkF m 231 #[.val (.long q1), .second, .val (.long q2), .second, .val (.long q3), .second, .val (.int p4), .val (.int p5), .val (.int p6), .val (.int (3 : Int32)), .val (.long k1), .second, .val (.long v1), .second, .val (.long k2), .second, .val (.long v2), .second, .val (.long k3), .second, .val (.long v3), .second, .val (.ref b1o), .val (.long ff), .second, .val (.long gg), .second, .val (.ref cp), .val (.long (k1 * ff)), .second, .val (.long (k2 * ff)), .second, .val (.long (k3 * ff)), .second, .val (.int (1 : Int32)), .unset] [(.long k1), (.ref b1o)])) rfl (by rw [hml]; rfl) (Steps.refl _) (argsL := [(.long k1)]) (rest := []) (lenOf pd_4 rfl) rfl (by show 2 * 0 + _ ≤ _; exact Nat.le_of_eq rfl) (hb hby at_231) (fun _ _ => ⟨rfl, e14, (by decide : 10 + 0 ≤ _), (by decide : 92 + 0 ≤ _)⟩)
  dsimp only [Pt.U, Pt.locs, Pt.cells, Pt.slots] at X15 lq15 yq15 zq15 st15 hQ15
  subst lq15 yq15 zq15
  obtain ⟨r15, hr15, rfl, N15q, e15⟩ := hQ15
  have N15 := Fr.app N14 N15q
  obtain ⟨ig15, hig15, Pg15, hv15⟩ := hr15
  have hg15 : r15 = v1 := by rw [hv15, ← hv1]; exact own_rep_get tr9 hig15 (own_Bne hB1) Pg15
  obtain ⟨cq20, kz20, q20a, q20b, q20c⟩ := isOf hZ e15 cE
  obtain ⟨_, _, ⟨T20, Lq20, kq20, nq20⟩, -, X20, ⟨Lc20, hQ20, lq20, yq20, zq20⟩, st20⟩ := X15.virtualBack hx (y := (⟨"com/example/pricewright/pricewright/core/LongSumTable", "get", "(J)J"⟩ : MethodName)) (z := (⟨"com/example/pricewright/pricewright/core/LongSumTable", "get", "(J)J"⟩ : MethodName)) hown (mvT hZ (hw _ (own_w 61 rfl))) (mvT hZ (hw _ (own_w 62 rfl))) (notFace_of_selects (args := #[]) (mvT hZ (hw _ (own_w 64 rfl)))) (mvT hZ (hw _ (own_w 64 rfl))) (mvT hZ (hw _ (own_w 63 rfl))) (by decide) (backOf (W := 0) (rmG l Z a0 hw [] cp (k2 * ff) ca ck (car) 8 (61 : Int32) T12.heap n0 Z12 (Or.inr ⟨rfl, rfl⟩) cE cS cH cA cf) hZ (hw _ (own_w 65 rfl)) (hw _ (own_w 2 rfl)) (by decide) (by decide)) q20a q20c (g := (mkF m 262 #[.val (.long q1), .second, .val (.long q2), .second, .val (.long q3), .second, .val (.int p4), .val (.int p5), .val (.int p6), .val (.int (3 : Int32)), .val (.long k1), .second, .val (.long v1), .second, .val (.long k2), .second, .val (.long v2), .second, .val (.long k3), .second, .val (.long v3), .second, .val (.ref b1o), .val (.long ff), .second, .val (.long gg), .second, .val (.ref cp), .val (.long (k1 * ff)), .second, .val (.long (k2 * ff)), .second, .val (.long (k3 * ff)), .second, .val (.int (1 : Int32)), .unset] [(.long (k2 * ff)), (.ref cp)])) rfl (by rw [hml]; rfl) (Steps.refl _) (argsL := [(.long (k2 * ff))]) (rest := []) (lenOf pd_4 rfl) rfl (by show 2 * 0 + _ ≤ _; exact Nat.le_of_eq rfl) (hb hby at_262) (fun _ _ => ⟨rfl, e15, (by decide : 10 + 0 ≤ _), (by decide : 92 + 0 ≤ _)⟩)
  dsimp only [Pt.U, Pt.locs, Pt.cells, Pt.slots] at X20 lq20 yq20 zq20 st20 hQ20
  subst lq20 yq20 zq20
  obtain ⟨r20, hr20, rfl, N20q, e20⟩ := hQ20
  have N20 := Fr.app N15 N20q
  obtain ⟨ig20, hig20, Pg20, hv20⟩ := hr20
  have hg20 : r20 = v2 * gg := by rw [hv20, ← hm2]; exact own_rep_get cr hig20 (own_mulF hB2 hBf) Pg20
  obtain ⟨cq21, kz21, q21a, q21b, q21c⟩ := isOf hZ e20 cE
  obtain ⟨_, _, ⟨T21, Lq21, kq21, nq21⟩, -, X21, ⟨Lc21, hQ21, lq21, yq21, zq21⟩, st21⟩ := X20.virtualBack hx (y := (⟨"com/example/pricewright/pricewright/core/LongSumTable", "get", "(J)J"⟩ : MethodName)) (z := (⟨"com/example/pricewright/pricewright/core/LongSumTable", "get", "(J)J"⟩ : MethodName)) hown (mvT hZ (hw _ (own_w 61 rfl))) (mvT hZ (hw _ (own_w 62 rfl))) (notFace_of_selects (args := #[]) (mvT hZ (hw _ (own_w 64 rfl)))) (mvT hZ (hw _ (own_w 64 rfl))) (mvT hZ (hw _ (own_w 63 rfl))) (by decide) (backOf (W := 0) (rmG l Z a0 hw [] cp (k3 * ff) ca ck (car) 8 (61 : Int32) T12.heap n0 Z12 (Or.inr ⟨rfl, rfl⟩) cE cS cH cA cf) hZ (hw _ (own_w 65 rfl)) (hw _ (own_w 2 rfl)) (by decide) (by decide)) q21a q21c (g := (mkF m 296 #[.val (.long q1), .second, .val (.long q2), .second, .val (.long q3), .second, .val (.int p4), .val (.int p5), .val (.int p6), .val (.int (3 : Int32)), .val (.long k1), .second, .val (.long v1), .second, .val (.long k2), .second, .val (.long v2), .second, .val (.long k3), .second, .val (.long v3), .second, .val (.ref b1o), .val (.long ff), .second, .val (.long gg), .second, .val (.ref cp), .val (.long (k1 * ff)), .second, .val (.long (k2 * ff)), .second, .val (.long (k3 * ff)), .second, .val (.int (1 : Int32)), .unset] [(.long (k3 * ff)), (.ref cp)])) rfl (by rw [hml]; rfl) (Steps.refl _) (argsL := [(.long (k3 * ff))]) (rest := []) (lenOf pd_4 rfl) rfl (by show 2 * 0 + _ ≤ _; exact Nat.le_of_eq rfl) (hb hby at_296) (fun _ _ => ⟨rfl, e20, (by decide : 10 + 0 ≤ _), (by decide : 92 + 0 ≤ _)⟩)
  dsimp only [Pt.U, Pt.locs, Pt.cells, Pt.slots] at X21 lq21 yq21 zq21 st21 hQ21
  subst lq21 yq21 zq21
  obtain ⟨r21, hr21, rfl, N21q, e21⟩ := hQ21
  have N21 := Fr.app N20 N21q
  obtain ⟨ig21, hig21, Pg21, hv21⟩ := hr21
  have hg21 : r21 = v3 * gg := by rw [hv21, ← hm3]; exact own_rep_get cr hig21 (own_mulF hB3 hBf) Pg21
  obtain ⟨cq22, kz22, q22a, q22b, q22c⟩ := isOf hZ e21 cE
  obtain ⟨_, _, ⟨T22, Lq22, kq22, nq22⟩, -, X22, ⟨Lc22, hQ22, lq22, yq22, zq22⟩, st22⟩ := X21.virtualBack hx (y := (⟨"com/example/pricewright/pricewright/core/LongSumTable", "sortedKeys", "()[J"⟩ : MethodName)) (z := (⟨"com/example/pricewright/pricewright/core/LongSumTable", "sortedKeys", "()[J"⟩ : MethodName)) hown (mvT hZ (hw _ (own_w 66 rfl))) (mvT hZ (hw _ (own_w 67 rfl))) (notFace_of_selects (args := #[]) (mvT hZ (hw _ (own_w 69 rfl)))) (mvT hZ (hw _ (own_w 69 rfl))) (mvT hZ (hw _ (own_w 68 rfl))) (by decide) (backOf (W := 0) (rmK8_3 l Z a0 hw [] cp ca ck car D2 M2 T12.heap n0 Z12 cE cS cH cZ cQ cA ne13 gcp cr) hZ (hw _ (own_w 70 rfl)) (hw _ (own_w 2 rfl)) (by decide) (by decide)) q22a q22c (g := (mkF m 317 #[.val (.long q1), .second, .val (.long q2), .second, .val (.long q3), .second, .val (.int p4), .val (.int p5), .val (.int p6), .val (.int (3 : Int32)), .val (.long k1), .second, .val (.long v1), .second, .val (.long k2), .second, .val (.long v2), .second, .val (.long k3), .second, .val (.long v3), .second, .val (.ref b1o), .val (.long ff), .second, .val (.long gg), .second, .val (.ref cp), .val (.long (k1 * ff)), .second, .val (.long (k2 * ff)), .second, .val (.long (k3 * ff)), .second, .val (.int (1 : Int32)), .unset] [(.ref cp)])) rfl (by rw [hml]; rfl) (Steps.refl _) (argsL := []) (rest := []) (lenOf pd_12 rfl) rfl (by show 2 * 0 + _ ≤ _; exact Nat.le_of_eq rfl) (hb hby at_317) (fun _ _ => ⟨rfl, e21, (by decide : 10 + 1 ≤ _), (by decide : 92 + 3 ≤ _)⟩)
  dsimp only [Pt.U, Pt.locs, Pt.cells, Pt.slots] at X22 lq22 yq22 zq22 st22 hQ22
  subst lq22 yq22 zq22
  obtain ⟨sa22, sk22, y22_0, y22_1, y22_2, rfl, N22q, KC22, gs22, gz22, E22', FS22', FH22', FZ22', FQ22', AS22, str22, mem22⟩ := hQ22
  have N22 := Fr.app N21 N22q
  have Z22 : n0 ≤ T22.heap.size := Nat.le_trans Z12 KC22.1
  obtain ⟨cl23, Ar23, qk23, Sz23, Nn23, Hh23, Gg23⟩ := id (AS22)
  obtain ⟨cl24, Ar24, qk24, Sz24, Nn24, Hh24, Gg24⟩ := id (AS22)
  have hin25 : ¬ ((0 : Int32) < 0 ∨ cl24.slots.size ≤ ((0 : Int32)).toNatClampNeg) := inb_of Sz24 ⟨by decide, by decide⟩
  have hat25 : cl24.slots[((0 : Int32)).toNatClampNeg]? = some (.long y22_0) := Has.at Hh24 hin25 rfl
  obtain ⟨_, _, ⟨T26, Lq26, kq26, nq26⟩, -, X26, ⟨Lc26, hQ26, lq26, yq26, zq26⟩, st26⟩ := Jvm.LawKit.callS X22 hx (y := (⟨"com/example/pricewright/pricewright/core/LongSumTableScaledPinLaw", "in", "(JIJJJ)Z"⟩ : MethodName)) hown (mvT hZ (hw _ (own_w 85 rfl))) (mvT hZ (hw _ (own_w 86 rfl))) (mvT hZ (hw _ (own_w 87 rfl))) (mvT hZ (hw _ (own_w 88 rfl))) (by decide) (backOf (W := 0) (rmin3 l Z a0 hw [] y22_0 (k1 * ff) (k2 * ff) (k3 * ff)  T22.heap n0 Z22 ) hZ (hw _ (own_w 88 rfl)) (hw _ (own_w 87 rfl)) (by decide) (by decide)) (g := (mkF m 355 #[.val (.long q1), .second, .val (.long q2), .second, .val (.long q3), .second, .val (.int p4), .val (.int p5), .val (.int p6), .val (.int (3 : Int32)), .val (.long k1), .second, .val (.long v1), .second, .val (.long k2), .second, .val (.long v2), .second, .val (.long k3), .second, .val (.long v3), .second, .val (.ref b1o), .val (.long ff), .second, .val (.long gg), .second, .val (.ref cp), .val (.long (k1 * ff)), .second, .val (.long (k2 * ff)), .second, .val (.long (k3 * ff)), .second, .val (.int (1 : Int32)), .val (.ref sa22)] [(.long (k3 * ff)), (.long (k2 * ff)), (.long (k1 * ff)), (.int (3 : Int32)), (.long y22_0)])) rfl (by rw [hml]; rfl) (argsL := [(.long y22_0), (.int (3 : Int32)), (.long (k1 * ff)), (.long (k2 * ff)), (.long (k3 * ff))]) (rest := []) (lenOf pd_13 rfl) rfl (by show 2 * 0 + _ ≤ _; exact Nat.le_of_eq rfl) (hb hby at_355) (fun _ _ => ⟨rfl, rfl, (by decide : 11 + 0 ≤ _), (by decide : 95 + 0 ≤ _)⟩)
  dsimp only [Pt.U, Pt.locs, Pt.cells, Pt.slots] at X26 lq26 yq26 zq26 st26 hQ26
  subst lq26 yq26 zq26
  obtain ⟨r26, hr26, rfl, N26q, e26⟩ := hQ26
  have N26 := Fr.app N22 N26q
  obtain ⟨cl27, Ar27, qk27, Sz27, Nn27, Hh27, Gg27⟩ := id (AS22)
  have hin28 : ¬ ((1 : Int32) < 0 ∨ cl27.slots.size ≤ ((1 : Int32)).toNatClampNeg) := inb_of Sz27 ⟨by decide, by decide⟩
  have hat28 : cl27.slots[((1 : Int32)).toNatClampNeg]? = some (.long y22_1) := Has.at Hh27 hin28 rfl
  obtain ⟨_, _, ⟨T29, Lq29, kq29, nq29⟩, -, X29, ⟨Lc29, hQ29, lq29, yq29, zq29⟩, st29⟩ := Jvm.LawKit.callS X26 hx (y := (⟨"com/example/pricewright/pricewright/core/LongSumTableScaledPinLaw", "in", "(JIJJJ)Z"⟩ : MethodName)) hown (mvT hZ (hw _ (own_w 85 rfl))) (mvT hZ (hw _ (own_w 86 rfl))) (mvT hZ (hw _ (own_w 87 rfl))) (mvT hZ (hw _ (own_w 88 rfl))) (by decide) (backOf (W := 0) (rmin3 l Z a0 hw [] y22_1 (k1 * ff) (k2 * ff) (k3 * ff)  T22.heap n0 Z22 ) hZ (hw _ (own_w 88 rfl)) (hw _ (own_w 87 rfl)) (by decide) (by decide)) (g := (mkF m 391 #[.val (.long q1), .second, .val (.long q2), .second, .val (.long q3), .second, .val (.int p4), .val (.int p5), .val (.int p6), .val (.int (3 : Int32)), .val (.long k1), .second, .val (.long v1), .second, .val (.long k2), .second, .val (.long v2), .second, .val (.long k3), .second, .val (.long v3), .second, .val (.ref b1o), .val (.long ff), .second, .val (.long gg), .second, .val (.ref cp), .val (.long (k1 * ff)), .second, .val (.long (k2 * ff)), .second, .val (.long (k3 * ff)), .second, .val (.int (1 : Int32)), .val (.ref sa22)] [(.long (k3 * ff)), (.long (k2 * ff)), (.long (k1 * ff)), (.int (3 : Int32)), (.long y22_1)])) rfl (by rw [hml]; rfl) (argsL := [(.long y22_1), (.int (3 : Int32)), (.long (k1 * ff)), (.long (k2 * ff)), (.long (k3 * ff))]) (rest := []) (lenOf pd_13 rfl) rfl (by show 2 * 0 + _ ≤ _; exact Nat.le_of_eq rfl) (hb hby at_391) (fun _ _ => ⟨rfl, e26, (by decide : 11 + 0 ≤ _), (by decide : 95 + 0 ≤ _)⟩)
  dsimp only [Pt.U, Pt.locs, Pt.cells, Pt.slots] at X29 lq29 yq29 zq29 st29 hQ29
  subst lq29 yq29 zq29
  obtain ⟨r29, hr29, rfl, N29q, e29⟩ := hQ29
  have N29 := Fr.app N26 N29q
  obtain ⟨cl30, Ar30, qk30, Sz30, Nn30, Hh30, Gg30⟩ := id (AS22)
  have hin31 : ¬ ((0 : Int32) < 0 ∨ cl30.slots.size ≤ ((0 : Int32)).toNatClampNeg) := inb_of Sz30 ⟨by decide, by decide⟩
  have hat31 : cl30.slots[((0 : Int32)).toNatClampNeg]? = some (.long y22_0) := Has.at Hh30 hin31 rfl
  obtain ⟨cl32, Ar32, qk32, Sz32, Nn32, Hh32, Gg32⟩ := id (AS22)
  have hin33 : ¬ ((1 : Int32) < 0 ∨ cl32.slots.size ≤ ((1 : Int32)).toNatClampNeg) := inb_of Sz32 ⟨by decide, by decide⟩
  have hat33 : cl32.slots[((1 : Int32)).toNatClampNeg]? = some (.long y22_1) := Has.at Hh32 hin33 rfl
  obtain ⟨cl34, Ar34, qk34, Sz34, Nn34, Hh34, Gg34⟩ := id (AS22)
  have hin35 : ¬ ((2 : Int32) < 0 ∨ cl34.slots.size ≤ ((2 : Int32)).toNatClampNeg) := inb_of Sz34 ⟨by decide, by decide⟩
  have hat35 : cl34.slots[((2 : Int32)).toNatClampNeg]? = some (.long y22_2) := Has.at Hh34 hin35 rfl
  obtain ⟨_, _, ⟨T36, Lq36, kq36, nq36⟩, -, X36, ⟨Lc36, hQ36, lq36, yq36, zq36⟩, st36⟩ := Jvm.LawKit.callS X29 hx (y := (⟨"com/example/pricewright/pricewright/core/LongSumTableScaledPinLaw", "in", "(JIJJJ)Z"⟩ : MethodName)) hown (mvT hZ (hw _ (own_w 85 rfl))) (mvT hZ (hw _ (own_w 86 rfl))) (mvT hZ (hw _ (own_w 87 rfl))) (mvT hZ (hw _ (own_w 88 rfl))) (by decide) (backOf (W := 0) (rmin3 l Z a0 hw [] y22_2 (k1 * ff) (k2 * ff) (k3 * ff)  T22.heap n0 Z22 ) hZ (hw _ (own_w 88 rfl)) (hw _ (own_w 87 rfl)) (by decide) (by decide)) (g := (mkF m 439 #[.val (.long q1), .second, .val (.long q2), .second, .val (.long q3), .second, .val (.int p4), .val (.int p5), .val (.int p6), .val (.int (3 : Int32)), .val (.long k1), .second, .val (.long v1), .second, .val (.long k2), .second, .val (.long v2), .second, .val (.long k3), .second, .val (.long v3), .second, .val (.ref b1o), .val (.long ff), .second, .val (.long gg), .second, .val (.ref cp), .val (.long (k1 * ff)), .second, .val (.long (k2 * ff)), .second, .val (.long (k3 * ff)), .second, .val (.int (1 : Int32)), .val (.ref sa22)] [(.long (k3 * ff)), (.long (k2 * ff)), (.long (k1 * ff)), (.int (3 : Int32)), (.long y22_2)])) rfl (by rw [hml]; rfl) (argsL := [(.long y22_2), (.int (3 : Int32)), (.long (k1 * ff)), (.long (k2 * ff)), (.long (k3 * ff))]) (rest := []) (lenOf pd_13 rfl) rfl (by show 2 * 0 + _ ≤ _; exact Nat.le_of_eq rfl) (hb hby at_439) (fun _ _ => ⟨rfl, e29, (by decide : 11 + 0 ≤ _), (by decide : 95 + 0 ≤ _)⟩)
  dsimp only [Pt.U, Pt.locs, Pt.cells, Pt.slots] at X36 lq36 yq36 zq36 st36 hQ36
  subst lq36 yq36 zq36
  obtain ⟨r36, hr36, rfl, N36q, e36⟩ := hQ36
  have N36 := Fr.app N29 N36q
  obtain ⟨cl37, Ar37, qk37, Sz37, Nn37, Hh37, Gg37⟩ := id (AS22)
  have hin38 : ¬ ((1 : Int32) < 0 ∨ cl37.slots.size ≤ ((1 : Int32)).toNatClampNeg) := inb_of Sz37 ⟨by decide, by decide⟩
  have hat38 : cl37.slots[((1 : Int32)).toNatClampNeg]? = some (.long y22_1) := Has.at Hh37 hin38 rfl
  obtain ⟨cl39, Ar39, qk39, Sz39, Nn39, Hh39, Gg39⟩ := id (AS22)
  have hin40 : ¬ ((2 : Int32) < 0 ∨ cl39.slots.size ≤ ((2 : Int32)).toNatClampNeg) := inb_of Sz39 ⟨by decide, by decide⟩
  have hat40 : cl39.slots[((2 : Int32)).toNatClampNeg]? = some (.long y22_2) := Has.at Hh39 hin40 rfl
  refine ⟨T36, _, #[.val (.long q1), .second, .val (.long q2), .second, .val (.long q3), .second, .val (.int p4), .val (.int p5), .val (.int p6), .val (.int (3 : Int32)), .val (.long k1), .second, .val (.long v1), .second, .val (.long k2), .second, .val (.long v2), .second, .val (.long k3), .second, .val (.long v3), .second, .val (.ref b1o), .val (.long ff), .second, .val (.long gg), .second, .val (.ref cp), .val (.long (k1 * ff)), .second, .val (.long (k2 * ff)), .second, .val (.long (k3 * ff)), .second, .val (.int (1 : Int32)), .val (.ref sa22)], X36, N36, fun target kt => ?_⟩
  refine st1 _ ?_
  refine XS.dup X1.here hx rfl (hb hby at_104) rfl rfl ?_
  refine st2.trans ?_
  refine XS.astore X2.here hx rfl (hb hby at_108) rfl rfl (l' := #[.val (.long q1), .second, .val (.long q2), .second, .val (.long q3), .second, .val (.int p4), .val (.int p5), .val (.int p6), .val (.int (3 : Int32)), .val (.long k1), .second, .val (.long v1), .second, .val (.long k2), .second, .val (.long v2), .second, .val (.long k3), .second, .val (.long v3), .second, .val (.ref b1o), .unset, .unset, .unset, .unset, .unset, .unset, .unset, .unset, .unset, .unset, .unset, .unset, .unset]) rfl ?_
  refine XS.iload X2.here hx rfl (hb hby at_110) rfl ?_
  refine XS.iconst X2.here hx rfl (hb hby at_112) ?_
  refine XS.icmpNo X2.here hx rfl (hb hby at_113) rfl (flt (by decide)).1 ?_
  refine XS.aload X2.here hx rfl (hb hby at_116) rfl rfl ?_
  refine XS.lload X2.here hx rfl (hb hby at_118) rfl ?_
  refine XS.lload X2.here hx rfl (hb hby at_120) rfl ?_
  refine st3.trans ?_
  refine XS.iload X3.here hx rfl (hb hby at_125) rfl ?_
  refine XS.iconst X3.here hx rfl (hb hby at_127) ?_
  refine XS.icmpNo X3.here hx rfl (hb hby at_128) rfl (flt (by decide)).1 ?_
  refine XS.aload X3.here hx rfl (hb hby at_131) rfl rfl ?_
  refine XS.lload X3.here hx rfl (hb hby at_133) rfl ?_
  refine XS.lload X3.here hx rfl (hb hby at_135) rfl ?_
  refine st6.trans ?_
  refine XS.iload X6.here hx rfl (hb hby at_140) rfl ?_
  refine XS.iconst X6.here hx rfl (hb hby at_142) ?_
  refine XS.icmpNo X6.here hx rfl (hb hby at_143) rfl (flt (by decide)).1 ?_
  refine XS.aload X6.here hx rfl (hb hby at_146) rfl rfl ?_
  refine XS.lload X6.here hx rfl (hb hby at_148) rfl ?_
  refine XS.lload X6.here hx rfl (hb hby at_150) rfl ?_
  refine st9.trans ?_
  refine XS.iload X9.here hx rfl (hb hby at_155) rfl ?_
  refine XS.i2l X9.here hx rfl (hb hby at_157) rfl ?_
  refine XS.lstore X9.here hx rfl (hb hby at_158) rfl (l' := #[.val (.long q1), .second, .val (.long q2), .second, .val (.long q3), .second, .val (.int p4), .val (.int p5), .val (.int p6), .val (.int (3 : Int32)), .val (.long k1), .second, .val (.long v1), .second, .val (.long k2), .second, .val (.long v2), .second, .val (.long k3), .second, .val (.long v3), .second, .val (.ref b1o), .val (.long (p4.toInt64)), .second, .unset, .unset, .unset, .unset, .unset, .unset, .unset, .unset, .unset, .unset, .unset]) rfl ?_
  show Steps p.tables e below (T9.setTop (mkF m 160 #[.val (.long q1), .second, .val (.long q2), .second, .val (.long q3), .second, .val (.int p4), .val (.int p5), .val (.int p6), .val (.int (3 : Int32)), .val (.long k1), .second, .val (.long v1), .second, .val (.long k2), .second, .val (.long v2), .second, .val (.long k3), .second, .val (.long v3), .second, .val (.ref b1o), .val (.long (p4.toInt64)), .second, .unset, .unset, .unset, .unset, .unset, .unset, .unset, .unset, .unset, .unset, .unset] [])) _
  rw [← hff]
  show Steps p.tables e below (T9.setTop (mkF m 160 #[.val (.long q1), .second, .val (.long q2), .second, .val (.long q3), .second, .val (.int p4), .val (.int p5), .val (.int p6), .val (.int (3 : Int32)), .val (.long k1), .second, .val (.long v1), .second, .val (.long k2), .second, .val (.long v2), .second, .val (.long k3), .second, .val (.long v3), .second, .val (.ref b1o), .val (.long ff), .second, .unset, .unset, .unset, .unset, .unset, .unset, .unset, .unset, .unset, .unset, .unset] [])) _
  refine XS.iload X9.here hx rfl (hb hby at_160) rfl ?_
  refine XS.i2l X9.here hx rfl (hb hby at_162) rfl ?_
  refine XS.lstore X9.here hx rfl (hb hby at_163) rfl (l' := #[.val (.long q1), .second, .val (.long q2), .second, .val (.long q3), .second, .val (.int p4), .val (.int p5), .val (.int p6), .val (.int (3 : Int32)), .val (.long k1), .second, .val (.long v1), .second, .val (.long k2), .second, .val (.long v2), .second, .val (.long k3), .second, .val (.long v3), .second, .val (.ref b1o), .val (.long ff), .second, .val (.long (p5.toInt64)), .second, .unset, .unset, .unset, .unset, .unset, .unset, .unset, .unset, .unset]) rfl ?_
  show Steps p.tables e below (T9.setTop (mkF m 165 #[.val (.long q1), .second, .val (.long q2), .second, .val (.long q3), .second, .val (.int p4), .val (.int p5), .val (.int p6), .val (.int (3 : Int32)), .val (.long k1), .second, .val (.long v1), .second, .val (.long k2), .second, .val (.long v2), .second, .val (.long k3), .second, .val (.long v3), .second, .val (.ref b1o), .val (.long ff), .second, .val (.long (p5.toInt64)), .second, .unset, .unset, .unset, .unset, .unset, .unset, .unset, .unset, .unset] [])) _
  rw [← hgg]
  show Steps p.tables e below (T9.setTop (mkF m 165 #[.val (.long q1), .second, .val (.long q2), .second, .val (.long q3), .second, .val (.int p4), .val (.int p5), .val (.int p6), .val (.int (3 : Int32)), .val (.long k1), .second, .val (.long v1), .second, .val (.long k2), .second, .val (.long v2), .second, .val (.long k3), .second, .val (.long v3), .second, .val (.ref b1o), .val (.long ff), .second, .val (.long gg), .second, .unset, .unset, .unset, .unset, .unset, .unset, .unset, .unset, .unset] [])) _
  refine XS.aload X9.here hx rfl (hb hby at_165) rfl rfl ?_
  refine XS.lload X9.here hx rfl (hb hby at_167) rfl ?_
  refine XS.lload X9.here hx rfl (hb hby at_169) rfl ?_
  refine st12.trans ?_
  refine XS.astore X12.here hx rfl (hb hby at_174) rfl rfl (l' := #[.val (.long q1), .second, .val (.long q2), .second, .val (.long q3), .second, .val (.int p4), .val (.int p5), .val (.int p6), .val (.int (3 : Int32)), .val (.long k1), .second, .val (.long v1), .second, .val (.long k2), .second, .val (.long v2), .second, .val (.long k3), .second, .val (.long v3), .second, .val (.ref b1o), .val (.long ff), .second, .val (.long gg), .second, .val (.ref cp), .unset, .unset, .unset, .unset, .unset, .unset, .unset, .unset]) rfl ?_
  refine XS.lload X12.here hx rfl (hb hby at_176) rfl ?_
  refine XS.lload X12.here hx rfl (hb hby at_178) rfl ?_
  refine XS.lmul X12.here hx rfl (hb hby at_180) rfl ?_
  refine XS.lstore X12.here hx rfl (hb hby at_181) rfl (l' := #[.val (.long q1), .second, .val (.long q2), .second, .val (.long q3), .second, .val (.int p4), .val (.int p5), .val (.int p6), .val (.int (3 : Int32)), .val (.long k1), .second, .val (.long v1), .second, .val (.long k2), .second, .val (.long v2), .second, .val (.long k3), .second, .val (.long v3), .second, .val (.ref b1o), .val (.long ff), .second, .val (.long gg), .second, .val (.ref cp), .val (.long (k1 * ff)), .second, .unset, .unset, .unset, .unset, .unset, .unset]) rfl ?_
  refine XS.lload X12.here hx rfl (hb hby at_183) rfl ?_
  refine XS.lload X12.here hx rfl (hb hby at_185) rfl ?_
  refine XS.lmul X12.here hx rfl (hb hby at_187) rfl ?_
  refine XS.lstore X12.here hx rfl (hb hby at_188) rfl (l' := #[.val (.long q1), .second, .val (.long q2), .second, .val (.long q3), .second, .val (.int p4), .val (.int p5), .val (.int p6), .val (.int (3 : Int32)), .val (.long k1), .second, .val (.long v1), .second, .val (.long k2), .second, .val (.long v2), .second, .val (.long k3), .second, .val (.long v3), .second, .val (.ref b1o), .val (.long ff), .second, .val (.long gg), .second, .val (.ref cp), .val (.long (k1 * ff)), .second, .val (.long (k2 * ff)), .second, .unset, .unset, .unset, .unset]) rfl ?_
  refine XS.lload X12.here hx rfl (hb hby at_190) rfl ?_
  refine XS.lload X12.here hx rfl (hb hby at_192) rfl ?_
  refine XS.lmul X12.here hx rfl (hb hby at_194) rfl ?_
  refine XS.lstore X12.here hx rfl (hb hby at_195) rfl (l' := #[.val (.long q1), .second, .val (.long q2), .second, .val (.long q3), .second, .val (.int p4), .val (.int p5), .val (.int p6), .val (.int (3 : Int32)), .val (.long k1), .second, .val (.long v1), .second, .val (.long k2), .second, .val (.long v2), .second, .val (.long k3), .second, .val (.long v3), .second, .val (.ref b1o), .val (.long ff), .second, .val (.long gg), .second, .val (.ref cp), .val (.long (k1 * ff)), .second, .val (.long (k2 * ff)), .second, .val (.long (k3 * ff)), .second, .unset, .unset]) rfl ?_
  refine XS.iconst X12.here hx rfl (hb hby at_197) ?_
  refine XS.istore X12.here hx rfl (hb hby at_198) rfl (l' := #[.val (.long q1), .second, .val (.long q2), .second, .val (.long q3), .second, .val (.int p4), .val (.int p5), .val (.int p6), .val (.int (3 : Int32)), .val (.long k1), .second, .val (.long v1), .second, .val (.long k2), .second, .val (.long v2), .second, .val (.long k3), .second, .val (.long v3), .second, .val (.ref b1o), .val (.long ff), .second, .val (.long gg), .second, .val (.ref cp), .val (.long (k1 * ff)), .second, .val (.long (k2 * ff)), .second, .val (.long (k3 * ff)), .second, .val (.int (1 : Int32)), .unset]) rfl ?_
  refine XS.iload X12.here hx rfl (hb hby at_200) rfl ?_
  refine XS.iconst X12.here hx rfl (hb hby at_202) ?_
  refine XS.icmpNo X12.here hx rfl (hb hby at_203) rfl (flt (by decide)).1 ?_
  refine XS.iload X12.here hx rfl (hb hby at_206) rfl ?_
  refine XS.ifNo X12.here hx rfl (hb hby at_208) rfl ((if0 _ _).trans (feq (by decide)).1) ?_
  refine XS.aload X12.here hx rfl (hb hby at_211) rfl rfl ?_
  refine XS.lload X12.here hx rfl (hb hby at_213) rfl ?_
  refine st14.trans ?_
  refine XS.lload X14.here hx rfl (hb hby at_218) rfl ?_
  refine XS.lload X14.here hx rfl (hb hby at_220) rfl ?_
  refine XS.lmul X14.here hx rfl (hb hby at_222) rfl ?_
  refine XS.lcmp X14.here hx rfl (hb hby at_223) rfl ?_
  refine XS.ifNo X14.here hx rfl (hb hby at_224) rfl ((if0 _ _).trans (teq (own_lceq hg14)).2) ?_
  refine XS.aload X14.here hx rfl (hb hby at_227) rfl rfl ?_
  refine XS.lload X14.here hx rfl (hb hby at_229) rfl ?_
  refine st15.trans ?_
  refine XS.lload X15.here hx rfl (hb hby at_234) rfl ?_
  refine XS.lcmp X15.here hx rfl (hb hby at_236) rfl ?_
  refine XS.ifNo X15.here hx rfl (hb hby at_237) rfl ((if0 _ _).trans (teq (own_lceq hg15)).2) ?_
  refine XS.iconst X15.here hx rfl (hb hby at_240) ?_
  refine XS.goto X15.here hx rfl (pc0 := 241) (pc' := 245) rfl (hb hby at_241) (by decide) (by decide) ?_
  show Steps p.tables e below (T15.setTop (mkF m 245 #[.val (.long q1), .second, .val (.long q2), .second, .val (.long q3), .second, .val (.int p4), .val (.int p5), .val (.int p6), .val (.int (3 : Int32)), .val (.long k1), .second, .val (.long v1), .second, .val (.long k2), .second, .val (.long v2), .second, .val (.long k3), .second, .val (.long v3), .second, .val (.ref b1o), .val (.long ff), .second, .val (.long gg), .second, .val (.ref cp), .val (.long (k1 * ff)), .second, .val (.long (k2 * ff)), .second, .val (.long (k3 * ff)), .second, .val (.int (1 : Int32)), .unset] [(.int (1 : Int32))])) _
  refine XS.istore X15.here hx rfl (hb hby at_245) rfl (l' := #[.val (.long q1), .second, .val (.long q2), .second, .val (.long q3), .second, .val (.int p4), .val (.int p5), .val (.int p6), .val (.int (3 : Int32)), .val (.long k1), .second, .val (.long v1), .second, .val (.long k2), .second, .val (.long v2), .second, .val (.long k3), .second, .val (.long v3), .second, .val (.ref b1o), .val (.long ff), .second, .val (.long gg), .second, .val (.ref cp), .val (.long (k1 * ff)), .second, .val (.long (k2 * ff)), .second, .val (.long (k3 * ff)), .second, .val (.int (1 : Int32)), .unset]) rfl ?_
  refine XS.iload X15.here hx rfl (hb hby at_247) rfl ?_
  refine XS.iconst X15.here hx rfl (hb hby at_249) ?_
  refine XS.icmpNo X15.here hx rfl (hb hby at_250) rfl (flt (by decide)).1 ?_
  refine XS.iload X15.here hx rfl (hb hby at_253) rfl ?_
  refine XS.ifNo X15.here hx rfl (hb hby at_255) rfl ((if0 _ _).trans (feq (by decide)).1) ?_
  refine XS.aload X15.here hx rfl (hb hby at_258) rfl rfl ?_
  refine XS.lload X15.here hx rfl (hb hby at_260) rfl ?_
  refine st20.trans ?_
  refine XS.lload X20.here hx rfl (hb hby at_265) rfl ?_
  refine XS.lload X20.here hx rfl (hb hby at_267) rfl ?_
  refine XS.lmul X20.here hx rfl (hb hby at_269) rfl ?_
  refine XS.lcmp X20.here hx rfl (hb hby at_270) rfl ?_
  refine XS.ifNo X20.here hx rfl (hb hby at_271) rfl ((if0 _ _).trans (teq (own_lceq hg20)).2) ?_
  refine XS.iconst X20.here hx rfl (hb hby at_274) ?_
  refine XS.goto X20.here hx rfl (pc0 := 275) (pc' := 279) rfl (hb hby at_275) (by decide) (by decide) ?_
  refine XS.istore X20.here hx rfl (hb hby at_279) rfl (l' := #[.val (.long q1), .second, .val (.long q2), .second, .val (.long q3), .second, .val (.int p4), .val (.int p5), .val (.int p6), .val (.int (3 : Int32)), .val (.long k1), .second, .val (.long v1), .second, .val (.long k2), .second, .val (.long v2), .second, .val (.long k3), .second, .val (.long v3), .second, .val (.ref b1o), .val (.long ff), .second, .val (.long gg), .second, .val (.ref cp), .val (.long (k1 * ff)), .second, .val (.long (k2 * ff)), .second, .val (.long (k3 * ff)), .second, .val (.int (1 : Int32)), .unset]) rfl ?_
  refine XS.iload X20.here hx rfl (hb hby at_281) rfl ?_
  refine XS.iconst X20.here hx rfl (hb hby at_283) ?_
  refine XS.icmpNo X20.here hx rfl (hb hby at_284) rfl (flt (by decide)).1 ?_
  refine XS.iload X20.here hx rfl (hb hby at_287) rfl ?_
  refine XS.ifNo X20.here hx rfl (hb hby at_289) rfl ((if0 _ _).trans (feq (by decide)).1) ?_
  refine XS.aload X20.here hx rfl (hb hby at_292) rfl rfl ?_
  refine XS.lload X20.here hx rfl (hb hby at_294) rfl ?_
  refine st21.trans ?_
  refine XS.lload X21.here hx rfl (hb hby at_299) rfl ?_
  refine XS.lload X21.here hx rfl (hb hby at_301) rfl ?_
  refine XS.lmul X21.here hx rfl (hb hby at_303) rfl ?_
  refine XS.lcmp X21.here hx rfl (hb hby at_304) rfl ?_
  refine XS.ifNo X21.here hx rfl (hb hby at_305) rfl ((if0 _ _).trans (teq (own_lceq hg21)).2) ?_
  refine XS.iconst X21.here hx rfl (hb hby at_308) ?_
  refine XS.goto X21.here hx rfl (pc0 := 309) (pc' := 313) rfl (hb hby at_309) (by decide) (by decide) ?_
  refine XS.istore X21.here hx rfl (hb hby at_313) rfl (l' := #[.val (.long q1), .second, .val (.long q2), .second, .val (.long q3), .second, .val (.int p4), .val (.int p5), .val (.int p6), .val (.int (3 : Int32)), .val (.long k1), .second, .val (.long v1), .second, .val (.long k2), .second, .val (.long v2), .second, .val (.long k3), .second, .val (.long v3), .second, .val (.ref b1o), .val (.long ff), .second, .val (.long gg), .second, .val (.ref cp), .val (.long (k1 * ff)), .second, .val (.long (k2 * ff)), .second, .val (.long (k3 * ff)), .second, .val (.int (1 : Int32)), .unset]) rfl ?_
  refine XS.aload X21.here hx rfl (hb hby at_315) rfl rfl ?_
  refine st22.trans ?_
  refine XS.astore X22.here hx rfl (hb hby at_320) rfl rfl (l' := #[.val (.long q1), .second, .val (.long q2), .second, .val (.long q3), .second, .val (.int p4), .val (.int p5), .val (.int p6), .val (.int (3 : Int32)), .val (.long k1), .second, .val (.long v1), .second, .val (.long k2), .second, .val (.long v2), .second, .val (.long k3), .second, .val (.long v3), .second, .val (.ref b1o), .val (.long ff), .second, .val (.long gg), .second, .val (.ref cp), .val (.long (k1 * ff)), .second, .val (.long (k2 * ff)), .second, .val (.long (k3 * ff)), .second, .val (.int (1 : Int32)), .val (.ref sa22)]) rfl ?_
  refine XS.aload X22.here hx rfl (hb hby at_322) rfl rfl ?_
  refine X22.arraylength hx Ar23.1 (State.isArrayOf_alike hZ.alike Ar23.2.1) (g := (mkF m 324 #[.val (.long q1), .second, .val (.long q2), .second, .val (.long q3), .second, .val (.int p4), .val (.int p5), .val (.int p6), .val (.int (3 : Int32)), .val (.long k1), .second, .val (.long v1), .second, .val (.long k2), .second, .val (.long v2), .second, .val (.long k3), .second, .val (.long v3), .second, .val (.ref b1o), .val (.long ff), .second, .val (.long gg), .second, .val (.ref cp), .val (.long (k1 * ff)), .second, .val (.long (k2 * ff)), .second, .val (.long (k3 * ff)), .second, .val (.int (1 : Int32)), .val (.ref sa22)] [(.ref sa22)])) rfl rfl (hb hby at_324) _ ?_
  rw [len_of Sz23 Nn23]
  show Steps p.tables e below (T22.setTop (mkF m 325 #[.val (.long q1), .second, .val (.long q2), .second, .val (.long q3), .second, .val (.int p4), .val (.int p5), .val (.int p6), .val (.int (3 : Int32)), .val (.long k1), .second, .val (.long v1), .second, .val (.long k2), .second, .val (.long v2), .second, .val (.long k3), .second, .val (.long v3), .second, .val (.ref b1o), .val (.long ff), .second, .val (.long gg), .second, .val (.ref cp), .val (.long (k1 * ff)), .second, .val (.long (k2 * ff)), .second, .val (.long (k3 * ff)), .second, .val (.int (1 : Int32)), .val (.ref sa22)] [(.int (3 : Int32))])) _
  refine XS.iload X22.here hx rfl (hb hby at_325) rfl ?_
  refine XS.icmpYes X22.here hx rfl (pc0 := 327) (pc' := 332) rfl (hb hby at_327) rfl (teq (by decide)).1 (by decide) (by decide) ?_
  refine XS.iload X22.here hx rfl (hb hby at_332) rfl ?_
  refine XS.iconst X22.here hx rfl (hb hby at_334) ?_
  refine XS.icmpNo X22.here hx rfl (hb hby at_335) rfl (flt (by decide)).1 ?_
  refine XS.iload X22.here hx rfl (hb hby at_338) rfl ?_
  refine XS.ifNo X22.here hx rfl (hb hby at_340) rfl ((if0 _ _).trans (feq (by decide)).1) ?_
  refine XS.aload X22.here hx rfl (hb hby at_343) rfl rfl ?_
  refine XS.iconst X22.here hx rfl (hb hby at_345) ?_
  refine X22.laload hx (j := (0 : Int32)) (v := (.long y22_0)) Ar24.1 (State.isArrayOf_alike hZ.alike Ar24.2.1) Ar24.2.2 hin25 hat25 (g := (mkF m 346 #[.val (.long q1), .second, .val (.long q2), .second, .val (.long q3), .second, .val (.int p4), .val (.int p5), .val (.int p6), .val (.int (3 : Int32)), .val (.long k1), .second, .val (.long v1), .second, .val (.long k2), .second, .val (.long v2), .second, .val (.long k3), .second, .val (.long v3), .second, .val (.ref b1o), .val (.long ff), .second, .val (.long gg), .second, .val (.ref cp), .val (.long (k1 * ff)), .second, .val (.long (k2 * ff)), .second, .val (.long (k3 * ff)), .second, .val (.int (1 : Int32)), .val (.ref sa22)] [(.int (0 : Int32)), (.ref sa22)])) rfl rfl (hb hby at_346) _ ?_
  refine XS.iload X22.here hx rfl (hb hby at_347) rfl ?_
  refine XS.lload X22.here hx rfl (hb hby at_349) rfl ?_
  refine XS.lload X22.here hx rfl (hb hby at_351) rfl ?_
  refine XS.lload X22.here hx rfl (hb hby at_353) rfl ?_
  refine st26 _ ?_
  refine XS.ifNo X26.here hx rfl (hb hby at_358) rfl ((if0 _ _).trans (feq (by rw [hr26, if_pos (hE _ ((mem22 _).mpr (Or.inl rfl)))]; decide)).1) ?_
  refine XS.iconst X26.here hx rfl (hb hby at_361) ?_
  refine XS.goto X26.here hx rfl (pc0 := 362) (pc' := 366) rfl (hb hby at_362) (by decide) (by decide) ?_
  refine XS.istore X26.here hx rfl (hb hby at_366) rfl (l' := #[.val (.long q1), .second, .val (.long q2), .second, .val (.long q3), .second, .val (.int p4), .val (.int p5), .val (.int p6), .val (.int (3 : Int32)), .val (.long k1), .second, .val (.long v1), .second, .val (.long k2), .second, .val (.long v2), .second, .val (.long k3), .second, .val (.long v3), .second, .val (.ref b1o), .val (.long ff), .second, .val (.long gg), .second, .val (.ref cp), .val (.long (k1 * ff)), .second, .val (.long (k2 * ff)), .second, .val (.long (k3 * ff)), .second, .val (.int (1 : Int32)), .val (.ref sa22)]) rfl ?_
  refine XS.iload X26.here hx rfl (hb hby at_368) rfl ?_
  refine XS.iconst X26.here hx rfl (hb hby at_370) ?_
  refine XS.icmpNo X26.here hx rfl (hb hby at_371) rfl (flt (by decide)).1 ?_
  refine XS.iload X26.here hx rfl (hb hby at_374) rfl ?_
  refine XS.ifNo X26.here hx rfl (hb hby at_376) rfl ((if0 _ _).trans (feq (by decide)).1) ?_
  refine XS.aload X26.here hx rfl (hb hby at_379) rfl rfl ?_
  refine XS.iconst X26.here hx rfl (hb hby at_381) ?_
  refine X26.laload hx (j := (1 : Int32)) (v := (.long y22_1)) (by rw [e26]; exact Ar27.1) (State.isArrayOf_alike hZ.alike Ar27.2.1) Ar27.2.2 hin28 hat28 (g := (mkF m 382 #[.val (.long q1), .second, .val (.long q2), .second, .val (.long q3), .second, .val (.int p4), .val (.int p5), .val (.int p6), .val (.int (3 : Int32)), .val (.long k1), .second, .val (.long v1), .second, .val (.long k2), .second, .val (.long v2), .second, .val (.long k3), .second, .val (.long v3), .second, .val (.ref b1o), .val (.long ff), .second, .val (.long gg), .second, .val (.ref cp), .val (.long (k1 * ff)), .second, .val (.long (k2 * ff)), .second, .val (.long (k3 * ff)), .second, .val (.int (1 : Int32)), .val (.ref sa22)] [(.int (1 : Int32)), (.ref sa22)])) rfl rfl (hb hby at_382) _ ?_
  refine XS.iload X26.here hx rfl (hb hby at_383) rfl ?_
  refine XS.lload X26.here hx rfl (hb hby at_385) rfl ?_
  refine XS.lload X26.here hx rfl (hb hby at_387) rfl ?_
  refine XS.lload X26.here hx rfl (hb hby at_389) rfl ?_
  refine st29 _ ?_
  refine XS.ifNo X29.here hx rfl (hb hby at_394) rfl ((if0 _ _).trans (feq (by rw [hr29, if_pos (hE _ ((mem22 _).mpr (Or.inr (Or.inl rfl))))]; decide)).1) ?_
  refine XS.aload X29.here hx rfl (hb hby at_397) rfl rfl ?_
  refine XS.iconst X29.here hx rfl (hb hby at_399) ?_
  refine X29.laload hx (j := (0 : Int32)) (v := (.long y22_0)) (by rw [e29]; exact Ar30.1) (State.isArrayOf_alike hZ.alike Ar30.2.1) Ar30.2.2 hin31 hat31 (g := (mkF m 400 #[.val (.long q1), .second, .val (.long q2), .second, .val (.long q3), .second, .val (.int p4), .val (.int p5), .val (.int p6), .val (.int (3 : Int32)), .val (.long k1), .second, .val (.long v1), .second, .val (.long k2), .second, .val (.long v2), .second, .val (.long k3), .second, .val (.long v3), .second, .val (.ref b1o), .val (.long ff), .second, .val (.long gg), .second, .val (.ref cp), .val (.long (k1 * ff)), .second, .val (.long (k2 * ff)), .second, .val (.long (k3 * ff)), .second, .val (.int (1 : Int32)), .val (.ref sa22)] [(.int (0 : Int32)), (.ref sa22)])) rfl rfl (hb hby at_400) _ ?_
  refine XS.aload X29.here hx rfl (hb hby at_401) rfl rfl ?_
  refine XS.iconst X29.here hx rfl (hb hby at_403) ?_
  refine X29.laload hx (j := (1 : Int32)) (v := (.long y22_1)) (by rw [e29]; exact Ar32.1) (State.isArrayOf_alike hZ.alike Ar32.2.1) Ar32.2.2 hin33 hat33 (g := (mkF m 404 #[.val (.long q1), .second, .val (.long q2), .second, .val (.long q3), .second, .val (.int p4), .val (.int p5), .val (.int p6), .val (.int (3 : Int32)), .val (.long k1), .second, .val (.long v1), .second, .val (.long k2), .second, .val (.long v2), .second, .val (.long k3), .second, .val (.long v3), .second, .val (.ref b1o), .val (.long ff), .second, .val (.long gg), .second, .val (.ref cp), .val (.long (k1 * ff)), .second, .val (.long (k2 * ff)), .second, .val (.long (k3 * ff)), .second, .val (.int (1 : Int32)), .val (.ref sa22)] [(.int (1 : Int32)), (.ref sa22), (.long y22_0)])) rfl rfl (hb hby at_404) _ ?_
  refine XS.lcmp X29.here hx rfl (hb hby at_405) rfl ?_
  show Steps p.tables e below (T29.setTop (mkF m 406 #[.val (.long q1), .second, .val (.long q2), .second, .val (.long q3), .second, .val (.int p4), .val (.int p5), .val (.int p6), .val (.int (3 : Int32)), .val (.long k1), .second, .val (.long v1), .second, .val (.long k2), .second, .val (.long v2), .second, .val (.long k3), .second, .val (.long v3), .second, .val (.ref b1o), .val (.long ff), .second, .val (.long gg), .second, .val (.ref cp), .val (.long (k1 * ff)), .second, .val (.long (k2 * ff)), .second, .val (.long (k3 * ff)), .second, .val (.int (1 : Int32)), .val (.ref sa22)] [(.int (lcmpW y22_0 y22_1))])) _
  refine XS.ifNo X29.here hx rfl (hb hby at_406) rfl ((if0 _ _).trans (tlt (own_lclt str22.1)).2.1) ?_
  refine XS.iconst X29.here hx rfl (hb hby at_409) ?_
  refine XS.goto X29.here hx rfl (pc0 := 410) (pc' := 414) rfl (hb hby at_410) (by decide) (by decide) ?_
  refine XS.istore X29.here hx rfl (hb hby at_414) rfl (l' := #[.val (.long q1), .second, .val (.long q2), .second, .val (.long q3), .second, .val (.int p4), .val (.int p5), .val (.int p6), .val (.int (3 : Int32)), .val (.long k1), .second, .val (.long v1), .second, .val (.long k2), .second, .val (.long v2), .second, .val (.long k3), .second, .val (.long v3), .second, .val (.ref b1o), .val (.long ff), .second, .val (.long gg), .second, .val (.ref cp), .val (.long (k1 * ff)), .second, .val (.long (k2 * ff)), .second, .val (.long (k3 * ff)), .second, .val (.int (1 : Int32)), .val (.ref sa22)]) rfl ?_
  refine XS.iload X29.here hx rfl (hb hby at_416) rfl ?_
  refine XS.iconst X29.here hx rfl (hb hby at_418) ?_
  refine XS.icmpNo X29.here hx rfl (hb hby at_419) rfl (flt (by decide)).1 ?_
  refine XS.iload X29.here hx rfl (hb hby at_422) rfl ?_
  refine XS.ifNo X29.here hx rfl (hb hby at_424) rfl ((if0 _ _).trans (feq (by decide)).1) ?_
  refine XS.aload X29.here hx rfl (hb hby at_427) rfl rfl ?_
  refine XS.iconst X29.here hx rfl (hb hby at_429) ?_
  refine X29.laload hx (j := (2 : Int32)) (v := (.long y22_2)) (by rw [e29]; exact Ar34.1) (State.isArrayOf_alike hZ.alike Ar34.2.1) Ar34.2.2 hin35 hat35 (g := (mkF m 430 #[.val (.long q1), .second, .val (.long q2), .second, .val (.long q3), .second, .val (.int p4), .val (.int p5), .val (.int p6), .val (.int (3 : Int32)), .val (.long k1), .second, .val (.long v1), .second, .val (.long k2), .second, .val (.long v2), .second, .val (.long k3), .second, .val (.long v3), .second, .val (.ref b1o), .val (.long ff), .second, .val (.long gg), .second, .val (.ref cp), .val (.long (k1 * ff)), .second, .val (.long (k2 * ff)), .second, .val (.long (k3 * ff)), .second, .val (.int (1 : Int32)), .val (.ref sa22)] [(.int (2 : Int32)), (.ref sa22)])) rfl rfl (hb hby at_430) _ ?_
  refine XS.iload X29.here hx rfl (hb hby at_431) rfl ?_
  refine XS.lload X29.here hx rfl (hb hby at_433) rfl ?_
  refine XS.lload X29.here hx rfl (hb hby at_435) rfl ?_
  refine XS.lload X29.here hx rfl (hb hby at_437) rfl ?_
  refine st36 _ ?_
  refine XS.ifNo X36.here hx rfl (hb hby at_442) rfl ((if0 _ _).trans (feq (by rw [hr36, if_pos (hE _ ((mem22 _).mpr (Or.inr (Or.inr rfl))))]; decide)).1) ?_
  refine XS.aload X36.here hx rfl (hb hby at_445) rfl rfl ?_
  refine XS.iconst X36.here hx rfl (hb hby at_447) ?_
  refine X36.laload hx (j := (1 : Int32)) (v := (.long y22_1)) (by rw [e36]; exact Ar37.1) (State.isArrayOf_alike hZ.alike Ar37.2.1) Ar37.2.2 hin38 hat38 (g := (mkF m 448 #[.val (.long q1), .second, .val (.long q2), .second, .val (.long q3), .second, .val (.int p4), .val (.int p5), .val (.int p6), .val (.int (3 : Int32)), .val (.long k1), .second, .val (.long v1), .second, .val (.long k2), .second, .val (.long v2), .second, .val (.long k3), .second, .val (.long v3), .second, .val (.ref b1o), .val (.long ff), .second, .val (.long gg), .second, .val (.ref cp), .val (.long (k1 * ff)), .second, .val (.long (k2 * ff)), .second, .val (.long (k3 * ff)), .second, .val (.int (1 : Int32)), .val (.ref sa22)] [(.int (1 : Int32)), (.ref sa22)])) rfl rfl (hb hby at_448) _ ?_
  refine XS.aload X36.here hx rfl (hb hby at_449) rfl rfl ?_
  refine XS.iconst X36.here hx rfl (hb hby at_451) ?_
  refine X36.laload hx (j := (2 : Int32)) (v := (.long y22_2)) (by rw [e36]; exact Ar39.1) (State.isArrayOf_alike hZ.alike Ar39.2.1) Ar39.2.2 hin40 hat40 (g := (mkF m 452 #[.val (.long q1), .second, .val (.long q2), .second, .val (.long q3), .second, .val (.int p4), .val (.int p5), .val (.int p6), .val (.int (3 : Int32)), .val (.long k1), .second, .val (.long v1), .second, .val (.long k2), .second, .val (.long v2), .second, .val (.long k3), .second, .val (.long v3), .second, .val (.ref b1o), .val (.long ff), .second, .val (.long gg), .second, .val (.ref cp), .val (.long (k1 * ff)), .second, .val (.long (k2 * ff)), .second, .val (.long (k3 * ff)), .second, .val (.int (1 : Int32)), .val (.ref sa22)] [(.int (2 : Int32)), (.ref sa22), (.long y22_1)])) rfl rfl (hb hby at_452) _ ?_
  refine XS.lcmp X36.here hx rfl (hb hby at_453) rfl ?_
  refine XS.ifNo X36.here hx rfl (hb hby at_454) rfl ((if0 _ _).trans (tlt (own_lclt str22.2)).2.1) ?_
  refine XS.iconst X36.here hx rfl (hb hby at_457) ?_
  refine XS.goto X36.here hx rfl (pc0 := 458) (pc' := 462) rfl (hb hby at_458) (by decide) (by decide) ?_
  refine XS.istore X36.here hx rfl (hb hby at_462) rfl (l' := #[.val (.long q1), .second, .val (.long q2), .second, .val (.long q3), .second, .val (.int p4), .val (.int p5), .val (.int p6), .val (.int (3 : Int32)), .val (.long k1), .second, .val (.long v1), .second, .val (.long k2), .second, .val (.long v2), .second, .val (.long k3), .second, .val (.long v3), .second, .val (.ref b1o), .val (.long ff), .second, .val (.long gg), .second, .val (.ref cp), .val (.long (k1 * ff)), .second, .val (.long (k2 * ff)), .second, .val (.long (k3 * ff)), .second, .val (.int (1 : Int32)), .val (.ref sa22)]) rfl ?_
  refine XS.iload X36.here hx rfl (hb hby at_464) rfl ?_
  exact kt
theorem pn_0 : plainName "com/example/pricewright/pricewright/core/LongSumTableScaledPinLaw" = true := by first | (simp [plainName, overriddenIn]; done) | decide +kernel
theorem ef_rm0 (m : MethodId) (q1 : Int64) (q2 : Int64) (q3 : Int64) (p4 : Int32) (p5 : Int32) (p6 : Int32) : entryFrame m #[(.long q1), (.long q2), (.long q3), (.int p4), (.int p5), (.int p6)] maxLocals = mkF m 0 #[.val (.long q1), .second, .val (.long q2), .second, .val (.long q3), .second, .val (.int p4), .val (.int p5), .val (.int p6), .unset, .unset, .unset, .unset, .unset, .unset, .unset, .unset, .unset, .unset, .unset, .unset, .unset, .unset, .unset, .unset, .unset, .unset, .unset, .unset, .unset, .unset, .unset, .unset, .unset, .unset, .unset] [] := by first | (simp [entryFrame, mkF, argsToLocals, Value.category, maxLocals]; done) | rfl
def Qrm0 (Z : State) (q1 : Int64) (q2 : Int64) (q3 : Int64) (p4 : Int32) (p5 : Int32) (p6 : Int32) (h0 : Heap) (n0 : Nat) (v : Option Value) (h : Heap) (L : List Loc) : Prop := v = some (.int 1) ∧ Fr n0 L
set_option maxRecDepth 65536 in
set_option maxHeartbeats 40000000 in
theorem rm0 (l : Launch) (Z : State) (a0 : Array Value) (hw : ∀ d ∈ tables_1, d.before a0 Z = true) (ws : List Jvm.Cond) (q1 : Int64) (q2 : Int64) (q3 : Int64) (p4 : Int32) (p5 : Int32) (p6 : Int32) (h0 : Heap) (n0 : Nat) (Z0 : n0 ≤ h0.size) :
    MetFree l x (head1 (Jvm.Cond.code x code maxLocals ret :: ws) room_1) (fun a U => a = #[(.long q1), (.long q2), (.long q3), (.int p4), (.int p5), (.int p6)] ∧ Z.Warmed39 U.vm ∧ U.heap = h0) (fun _ _ _ _ _ => True) (fun _ U o U' => ∃ v L, o = .returned v ∧ Qrm0 Z q1 q2 q3 p4 p5 p6 h0 n0 v U'.heap L ∧ FrameEnd U o U' L room_1.cells room_1.slots) := by
  refine MetFree.of_bodySF (plainFor_of_name pn_0) hisR ?_
  intro p e s m args below meth c s₁ Bd hml0 hP hK
  obtain ⟨rfl, hZ, hh⟩ := hP
  have hx := Bd.exec
  have hby := Bd.bytes
  have hml : c.maxLocals = 36 := hml0
  have hown : s.vm.findClass "com/example/pricewright/pricewright/core/LongSumTableScaledPinLaw" = some m.cls := findClass_of_methodNamed Bd.named
  have hnm := (name_of_methodNamed Bd.named Bd.method).1
  have X0 : Stand p l e room_1 s m #[(.long q1), (.long q2), (.long q3), (.int p4), (.int p5), (.int p6)] below meth c s₁ [] 0 0 := Stand.of_body Bd
  have e0 : s₁.heap = h0 := by rw [← hh, Bd.state]; rfl
  have N0 := Fr.nil n0
  have pre0 : ∀ t, Steps p.tables e below (s₁.setTop (mkF m 0 #[.val (.long q1), .second, .val (.long q2), .second, .val (.long q3), .second, .val (.int p4), .val (.int p5), .val (.int p6), .unset, .unset, .unset, .unset, .unset, .unset, .unset, .unset, .unset, .unset, .unset, .unset, .unset, .unset, .unset, .unset, .unset, .unset, .unset, .unset, .unset, .unset, .unset, .unset, .unset, .unset, .unset] [])) t → Steps p.tables e below (s₁.setTop (entryFrame m #[(.long q1), (.long q2), (.long q3), (.int p4), (.int p5), (.int p6)] maxLocals)) t := fun t k => castTop (ef_rm0 m q1 q2 q3 p4 p5 p6) k
  obtain ⟨k1, hk1⟩ : ∃ z : Int64, z = (((q1 >>> ((32 : Int32) &&& 0x3f).toInt64).toInt32).toInt64) := ⟨_, rfl⟩
  have hB1 : own_B k1 := by rw [hk1]; exact own_Bi _
  obtain ⟨v1, hv1⟩ : ∃ z : Int64, z = ((q1.toInt32).toInt64) := ⟨_, rfl⟩
  have hC1 : own_B v1 := by rw [hv1]; exact own_Bi _
  obtain ⟨k2, hk2⟩ : ∃ z : Int64, z = (((q2 >>> ((32 : Int32) &&& 0x3f).toInt64).toInt32).toInt64) := ⟨_, rfl⟩
  have hB2 : own_B k2 := by rw [hk2]; exact own_Bi _
  obtain ⟨v2, hv2⟩ : ∃ z : Int64, z = ((q2.toInt32).toInt64) := ⟨_, rfl⟩
  have hC2 : own_B v2 := by rw [hv2]; exact own_Bi _
  obtain ⟨k3, hk3⟩ : ∃ z : Int64, z = (((q3 >>> ((32 : Int32) &&& 0x3f).toInt64).toInt32).toInt64) := ⟨_, rfl⟩
  have hB3 : own_B k3 := by rw [hk3]; exact own_Bi _
  obtain ⟨v3, hv3⟩ : ∃ z : Int64, z = ((q3.toInt32).toInt64) := ⟨_, rfl⟩
  have hC3 : own_B v3 := by rw [hv3]; exact own_Bi _
  have pro : ∀ target, Steps p.tables e below (s₁.setTop (mkF m 47 #[.val (.long q1), .second, .val (.long q2), .second, .val (.long q3), .second, .val (.int p4), .val (.int p5), .val (.int p6), .val (.int (p6 &&& (3 : Int32))), .val (.long k1), .second, .val (.long v1), .second, .val (.long k2), .second, .val (.long v2), .second, .val (.long k3), .second, .val (.long v3), .second, .unset, .unset, .unset, .unset, .unset, .unset, .unset, .unset, .unset, .unset, .unset, .unset, .unset, .unset] [])) target → Steps p.tables e below (s₁.setTop (mkF m 0 #[.val (.long q1), .second, .val (.long q2), .second, .val (.long q3), .second, .val (.int p4), .val (.int p5), .val (.int p6), .unset, .unset, .unset, .unset, .unset, .unset, .unset, .unset, .unset, .unset, .unset, .unset, .unset, .unset, .unset, .unset, .unset, .unset, .unset, .unset, .unset, .unset, .unset, .unset, .unset, .unset, .unset] [])) target := fun target kt => by
    show Steps p.tables e below (s₁.setTop (mkF m 0 #[.val (.long q1), .second, .val (.long q2), .second, .val (.long q3), .second, .val (.int p4), .val (.int p5), .val (.int p6), .unset, .unset, .unset, .unset, .unset, .unset, .unset, .unset, .unset, .unset, .unset, .unset, .unset, .unset, .unset, .unset, .unset, .unset, .unset, .unset, .unset, .unset, .unset, .unset, .unset, .unset, .unset] [])) _
    refine XS.iload X0.here hx rfl (hb hby at_0) rfl ?_
    refine XS.iconst X0.here hx rfl (hb hby at_2) ?_
    refine XS.iand X0.here hx rfl (hb hby at_3) rfl ?_
    refine XS.istore X0.here hx rfl (hb hby at_4) rfl (l' := #[.val (.long q1), .second, .val (.long q2), .second, .val (.long q3), .second, .val (.int p4), .val (.int p5), .val (.int p6), .val (.int (p6 &&& (3 : Int32))), .unset, .unset, .unset, .unset, .unset, .unset, .unset, .unset, .unset, .unset, .unset, .unset, .unset, .unset, .unset, .unset, .unset, .unset, .unset, .unset, .unset, .unset, .unset, .unset, .unset, .unset]) rfl ?_
    refine XS.lloadN X0.here hx rfl (hb hby at_6) rfl ?_
    refine XS.bipush X0.here hx rfl (hb hby at_7) ?_
    refine XS.lshr X0.here hx rfl (hb hby at_9) rfl ?_
    refine XS.l2i X0.here hx rfl (hb hby at_10) rfl ?_
    refine XS.i2l X0.here hx rfl (hb hby at_11) rfl ?_
    refine XS.lstore X0.here hx rfl (hb hby at_12) rfl (l' := #[.val (.long q1), .second, .val (.long q2), .second, .val (.long q3), .second, .val (.int p4), .val (.int p5), .val (.int p6), .val (.int (p6 &&& (3 : Int32))), .val (.long (((q1 >>> ((32 : Int32) &&& 0x3f).toInt64).toInt32).toInt64)), .second, .unset, .unset, .unset, .unset, .unset, .unset, .unset, .unset, .unset, .unset, .unset, .unset, .unset, .unset, .unset, .unset, .unset, .unset, .unset, .unset, .unset, .unset, .unset, .unset]) rfl ?_
    show Steps p.tables e below (s₁.setTop (mkF m 14 #[.val (.long q1), .second, .val (.long q2), .second, .val (.long q3), .second, .val (.int p4), .val (.int p5), .val (.int p6), .val (.int (p6 &&& (3 : Int32))), .val (.long (((q1 >>> ((32 : Int32) &&& 0x3f).toInt64).toInt32).toInt64)), .second, .unset, .unset, .unset, .unset, .unset, .unset, .unset, .unset, .unset, .unset, .unset, .unset, .unset, .unset, .unset, .unset, .unset, .unset, .unset, .unset, .unset, .unset, .unset, .unset] [])) _
    rw [← hk1]
    show Steps p.tables e below (s₁.setTop (mkF m 14 #[.val (.long q1), .second, .val (.long q2), .second, .val (.long q3), .second, .val (.int p4), .val (.int p5), .val (.int p6), .val (.int (p6 &&& (3 : Int32))), .val (.long k1), .second, .unset, .unset, .unset, .unset, .unset, .unset, .unset, .unset, .unset, .unset, .unset, .unset, .unset, .unset, .unset, .unset, .unset, .unset, .unset, .unset, .unset, .unset, .unset, .unset] [])) _
    refine XS.lloadN X0.here hx rfl (hb hby at_14) rfl ?_
    refine XS.l2i X0.here hx rfl (hb hby at_15) rfl ?_
    refine XS.i2l X0.here hx rfl (hb hby at_16) rfl ?_
    refine XS.lstore X0.here hx rfl (hb hby at_17) rfl (l' := #[.val (.long q1), .second, .val (.long q2), .second, .val (.long q3), .second, .val (.int p4), .val (.int p5), .val (.int p6), .val (.int (p6 &&& (3 : Int32))), .val (.long k1), .second, .val (.long ((q1.toInt32).toInt64)), .second, .unset, .unset, .unset, .unset, .unset, .unset, .unset, .unset, .unset, .unset, .unset, .unset, .unset, .unset, .unset, .unset, .unset, .unset, .unset, .unset, .unset, .unset]) rfl ?_
    show Steps p.tables e below (s₁.setTop (mkF m 19 #[.val (.long q1), .second, .val (.long q2), .second, .val (.long q3), .second, .val (.int p4), .val (.int p5), .val (.int p6), .val (.int (p6 &&& (3 : Int32))), .val (.long k1), .second, .val (.long ((q1.toInt32).toInt64)), .second, .unset, .unset, .unset, .unset, .unset, .unset, .unset, .unset, .unset, .unset, .unset, .unset, .unset, .unset, .unset, .unset, .unset, .unset, .unset, .unset, .unset, .unset] [])) _
    rw [← hv1]
    show Steps p.tables e below (s₁.setTop (mkF m 19 #[.val (.long q1), .second, .val (.long q2), .second, .val (.long q3), .second, .val (.int p4), .val (.int p5), .val (.int p6), .val (.int (p6 &&& (3 : Int32))), .val (.long k1), .second, .val (.long v1), .second, .unset, .unset, .unset, .unset, .unset, .unset, .unset, .unset, .unset, .unset, .unset, .unset, .unset, .unset, .unset, .unset, .unset, .unset, .unset, .unset, .unset, .unset] [])) _
    refine XS.lloadN X0.here hx rfl (hb hby at_19) rfl ?_
    refine XS.bipush X0.here hx rfl (hb hby at_20) ?_
    refine XS.lshr X0.here hx rfl (hb hby at_22) rfl ?_
    refine XS.l2i X0.here hx rfl (hb hby at_23) rfl ?_
    refine XS.i2l X0.here hx rfl (hb hby at_24) rfl ?_
    refine XS.lstore X0.here hx rfl (hb hby at_25) rfl (l' := #[.val (.long q1), .second, .val (.long q2), .second, .val (.long q3), .second, .val (.int p4), .val (.int p5), .val (.int p6), .val (.int (p6 &&& (3 : Int32))), .val (.long k1), .second, .val (.long v1), .second, .val (.long (((q2 >>> ((32 : Int32) &&& 0x3f).toInt64).toInt32).toInt64)), .second, .unset, .unset, .unset, .unset, .unset, .unset, .unset, .unset, .unset, .unset, .unset, .unset, .unset, .unset, .unset, .unset, .unset, .unset, .unset, .unset]) rfl ?_
    show Steps p.tables e below (s₁.setTop (mkF m 27 #[.val (.long q1), .second, .val (.long q2), .second, .val (.long q3), .second, .val (.int p4), .val (.int p5), .val (.int p6), .val (.int (p6 &&& (3 : Int32))), .val (.long k1), .second, .val (.long v1), .second, .val (.long (((q2 >>> ((32 : Int32) &&& 0x3f).toInt64).toInt32).toInt64)), .second, .unset, .unset, .unset, .unset, .unset, .unset, .unset, .unset, .unset, .unset, .unset, .unset, .unset, .unset, .unset, .unset, .unset, .unset, .unset, .unset] [])) _
    rw [← hk2]
    show Steps p.tables e below (s₁.setTop (mkF m 27 #[.val (.long q1), .second, .val (.long q2), .second, .val (.long q3), .second, .val (.int p4), .val (.int p5), .val (.int p6), .val (.int (p6 &&& (3 : Int32))), .val (.long k1), .second, .val (.long v1), .second, .val (.long k2), .second, .unset, .unset, .unset, .unset, .unset, .unset, .unset, .unset, .unset, .unset, .unset, .unset, .unset, .unset, .unset, .unset, .unset, .unset, .unset, .unset] [])) _
    refine XS.lloadN X0.here hx rfl (hb hby at_27) rfl ?_
    refine XS.l2i X0.here hx rfl (hb hby at_28) rfl ?_
    refine XS.i2l X0.here hx rfl (hb hby at_29) rfl ?_
    refine XS.lstore X0.here hx rfl (hb hby at_30) rfl (l' := #[.val (.long q1), .second, .val (.long q2), .second, .val (.long q3), .second, .val (.int p4), .val (.int p5), .val (.int p6), .val (.int (p6 &&& (3 : Int32))), .val (.long k1), .second, .val (.long v1), .second, .val (.long k2), .second, .val (.long ((q2.toInt32).toInt64)), .second, .unset, .unset, .unset, .unset, .unset, .unset, .unset, .unset, .unset, .unset, .unset, .unset, .unset, .unset, .unset, .unset, .unset, .unset]) rfl ?_
    show Steps p.tables e below (s₁.setTop (mkF m 32 #[.val (.long q1), .second, .val (.long q2), .second, .val (.long q3), .second, .val (.int p4), .val (.int p5), .val (.int p6), .val (.int (p6 &&& (3 : Int32))), .val (.long k1), .second, .val (.long v1), .second, .val (.long k2), .second, .val (.long ((q2.toInt32).toInt64)), .second, .unset, .unset, .unset, .unset, .unset, .unset, .unset, .unset, .unset, .unset, .unset, .unset, .unset, .unset, .unset, .unset, .unset, .unset] [])) _
    rw [← hv2]
    show Steps p.tables e below (s₁.setTop (mkF m 32 #[.val (.long q1), .second, .val (.long q2), .second, .val (.long q3), .second, .val (.int p4), .val (.int p5), .val (.int p6), .val (.int (p6 &&& (3 : Int32))), .val (.long k1), .second, .val (.long v1), .second, .val (.long k2), .second, .val (.long v2), .second, .unset, .unset, .unset, .unset, .unset, .unset, .unset, .unset, .unset, .unset, .unset, .unset, .unset, .unset, .unset, .unset, .unset, .unset] [])) _
    refine XS.lload X0.here hx rfl (hb hby at_32) rfl ?_
    refine XS.bipush X0.here hx rfl (hb hby at_34) ?_
    refine XS.lshr X0.here hx rfl (hb hby at_36) rfl ?_
    refine XS.l2i X0.here hx rfl (hb hby at_37) rfl ?_
    refine XS.i2l X0.here hx rfl (hb hby at_38) rfl ?_
    refine XS.lstore X0.here hx rfl (hb hby at_39) rfl (l' := #[.val (.long q1), .second, .val (.long q2), .second, .val (.long q3), .second, .val (.int p4), .val (.int p5), .val (.int p6), .val (.int (p6 &&& (3 : Int32))), .val (.long k1), .second, .val (.long v1), .second, .val (.long k2), .second, .val (.long v2), .second, .val (.long (((q3 >>> ((32 : Int32) &&& 0x3f).toInt64).toInt32).toInt64)), .second, .unset, .unset, .unset, .unset, .unset, .unset, .unset, .unset, .unset, .unset, .unset, .unset, .unset, .unset, .unset, .unset]) rfl ?_
    show Steps p.tables e below (s₁.setTop (mkF m 41 #[.val (.long q1), .second, .val (.long q2), .second, .val (.long q3), .second, .val (.int p4), .val (.int p5), .val (.int p6), .val (.int (p6 &&& (3 : Int32))), .val (.long k1), .second, .val (.long v1), .second, .val (.long k2), .second, .val (.long v2), .second, .val (.long (((q3 >>> ((32 : Int32) &&& 0x3f).toInt64).toInt32).toInt64)), .second, .unset, .unset, .unset, .unset, .unset, .unset, .unset, .unset, .unset, .unset, .unset, .unset, .unset, .unset, .unset, .unset] [])) _
    rw [← hk3]
    show Steps p.tables e below (s₁.setTop (mkF m 41 #[.val (.long q1), .second, .val (.long q2), .second, .val (.long q3), .second, .val (.int p4), .val (.int p5), .val (.int p6), .val (.int (p6 &&& (3 : Int32))), .val (.long k1), .second, .val (.long v1), .second, .val (.long k2), .second, .val (.long v2), .second, .val (.long k3), .second, .unset, .unset, .unset, .unset, .unset, .unset, .unset, .unset, .unset, .unset, .unset, .unset, .unset, .unset, .unset, .unset] [])) _
    refine XS.lload X0.here hx rfl (hb hby at_41) rfl ?_
    refine XS.l2i X0.here hx rfl (hb hby at_43) rfl ?_
    refine XS.i2l X0.here hx rfl (hb hby at_44) rfl ?_
    refine XS.lstore X0.here hx rfl (hb hby at_45) rfl (l' := #[.val (.long q1), .second, .val (.long q2), .second, .val (.long q3), .second, .val (.int p4), .val (.int p5), .val (.int p6), .val (.int (p6 &&& (3 : Int32))), .val (.long k1), .second, .val (.long v1), .second, .val (.long k2), .second, .val (.long v2), .second, .val (.long k3), .second, .val (.long ((q3.toInt32).toInt64)), .second, .unset, .unset, .unset, .unset, .unset, .unset, .unset, .unset, .unset, .unset, .unset, .unset, .unset, .unset]) rfl ?_
    show Steps p.tables e below (s₁.setTop (mkF m 47 #[.val (.long q1), .second, .val (.long q2), .second, .val (.long q3), .second, .val (.int p4), .val (.int p5), .val (.int p6), .val (.int (p6 &&& (3 : Int32))), .val (.long k1), .second, .val (.long v1), .second, .val (.long k2), .second, .val (.long v2), .second, .val (.long k3), .second, .val (.long ((q3.toInt32).toInt64)), .second, .unset, .unset, .unset, .unset, .unset, .unset, .unset, .unset, .unset, .unset, .unset, .unset, .unset, .unset] [])) _
    rw [← hv3]
    exact kt
  rcases own_and3 p6 with hn | hn | hn | hn
  · skip
    by_cases hc49 : p4 = (0 : Int32)
    · obtain ⟨T1, L1, Ls1, X1, N1, st1⟩ := own_tl0 hx hZ hw hby hml hown X0 e0 N0 Z0 hB1 hB2 hB3 hC1 hC2 hC3
      obtain ⟨fs, hr, hrun, hended, hW, hsame⟩ := X1.leave (v := some (.int (1 : Int32))) (fun h => by rw [Bd.returns] at h; cases h) (BodyLoose.notSynchronized Bd)
      refine ⟨_, _, pre0 _ ?_, hrun, hended, _, _, rfl, ?_, ⟨_, rfl⟩, hW, hsame.mono (by decide) (by decide)⟩
      · refine pro _ ?_
        show Steps p.tables e below (s₁.setTop (mkF m 47 #[.val (.long q1), .second, .val (.long q2), .second, .val (.long q3), .second, .val (.int p4), .val (.int p5), .val (.int p6), .val (.int (p6 &&& (3 : Int32))), .val (.long k1), .second, .val (.long v1), .second, .val (.long k2), .second, .val (.long v2), .second, .val (.long k3), .second, .val (.long v3), .second, .unset, .unset, .unset, .unset, .unset, .unset, .unset, .unset, .unset, .unset, .unset, .unset, .unset, .unset] [])) _
        rw [hn]
        show Steps p.tables e below (s₁.setTop (mkF m 47 #[.val (.long q1), .second, .val (.long q2), .second, .val (.long q3), .second, .val (.int p4), .val (.int p5), .val (.int p6), .val (.int (0 : Int32)), .val (.long k1), .second, .val (.long v1), .second, .val (.long k2), .second, .val (.long v2), .second, .val (.long k3), .second, .val (.long v3), .second, .unset, .unset, .unset, .unset, .unset, .unset, .unset, .unset, .unset, .unset, .unset, .unset, .unset, .unset] [])) _
        refine XS.iload X0.here hx rfl (hb hby at_47) rfl ?_
        refine XS.ifNo X0.here hx rfl (hb hby at_49) rfl ((if0 _ _).trans (teq hc49).2) ?_
        refine XS.iload X0.here hx rfl (hb hby at_52) rfl ?_
        refine XS.iconst X0.here hx rfl (hb hby at_54) ?_
        refine XS.icmpYes X0.here hx rfl (pc0 := 55) (pc' := 61) rfl (hb hby at_55) rfl (tlt (by decide)).1 (by decide) (by decide) ?_
        refine XS.iload X0.here hx rfl (hb hby at_61) rfl ?_
        refine XS.iconst X0.here hx rfl (hb hby at_63) ?_
        refine XS.icmpYes X0.here hx rfl (pc0 := 64) (pc' := 77) rfl (hb hby at_64) rfl (tlt (by decide)).1 (by decide) (by decide) ?_
        refine XS.iload X0.here hx rfl (hb hby at_77) rfl ?_
        refine XS.iconst X0.here hx rfl (hb hby at_79) ?_
        refine XS.icmpYes X0.here hx rfl (pc0 := 80) (pc' := 101) rfl (hb hby at_80) rfl (tlt (by decide)).1 (by decide) (by decide) ?_
        refine st1 _ ?_
        show Steps p.tables e below (T1.setTop (mkF m 466 Ls1 [(.int (1 : Int32))])) _
        exact retN X1 hx (t := .boolean) Bd.returns (by simp) (hb hby at_466) hr
      · show Qrm0 Z q1 q2 q3 p4 p5 p6 h0 n0 _ T1.heap _
        exact ⟨rfl, N1⟩
    · obtain ⟨T2, L2, Ls2, X2, N2, st2⟩ := own_tl0 hx hZ hw hby hml hown X0 e0 N0 Z0 hB1 hB2 hB3 hC1 hC2 hC3
      obtain ⟨fs, hr, hrun, hended, hW, hsame⟩ := X2.leave (v := some (.int (1 : Int32))) (fun h => by rw [Bd.returns] at h; cases h) (BodyLoose.notSynchronized Bd)
      refine ⟨_, _, pre0 _ ?_, hrun, hended, _, _, rfl, ?_, ⟨_, rfl⟩, hW, hsame.mono (by decide) (by decide)⟩
      · refine pro _ ?_
        show Steps p.tables e below (s₁.setTop (mkF m 47 #[.val (.long q1), .second, .val (.long q2), .second, .val (.long q3), .second, .val (.int p4), .val (.int p5), .val (.int p6), .val (.int (p6 &&& (3 : Int32))), .val (.long k1), .second, .val (.long v1), .second, .val (.long k2), .second, .val (.long v2), .second, .val (.long k3), .second, .val (.long v3), .second, .unset, .unset, .unset, .unset, .unset, .unset, .unset, .unset, .unset, .unset, .unset, .unset, .unset, .unset] [])) _
        rw [hn]
        show Steps p.tables e below (s₁.setTop (mkF m 47 #[.val (.long q1), .second, .val (.long q2), .second, .val (.long q3), .second, .val (.int p4), .val (.int p5), .val (.int p6), .val (.int (0 : Int32)), .val (.long k1), .second, .val (.long v1), .second, .val (.long k2), .second, .val (.long v2), .second, .val (.long k3), .second, .val (.long v3), .second, .unset, .unset, .unset, .unset, .unset, .unset, .unset, .unset, .unset, .unset, .unset, .unset, .unset, .unset] [])) _
        refine XS.iload X0.here hx rfl (hb hby at_47) rfl ?_
        refine XS.ifYes X0.here hx rfl (pc0 := 49) (pc' := 61) rfl (hb hby at_49) rfl ((if0 _ _).trans (feq hc49).2) (by decide) (by decide) ?_
        refine XS.iload X0.here hx rfl (hb hby at_61) rfl ?_
        refine XS.iconst X0.here hx rfl (hb hby at_63) ?_
        refine XS.icmpYes X0.here hx rfl (pc0 := 64) (pc' := 77) rfl (hb hby at_64) rfl (tlt (by decide)).1 (by decide) (by decide) ?_
        refine XS.iload X0.here hx rfl (hb hby at_77) rfl ?_
        refine XS.iconst X0.here hx rfl (hb hby at_79) ?_
        refine XS.icmpYes X0.here hx rfl (pc0 := 80) (pc' := 101) rfl (hb hby at_80) rfl (tlt (by decide)).1 (by decide) (by decide) ?_
        refine st2 _ ?_
        show Steps p.tables e below (T2.setTop (mkF m 466 Ls2 [(.int (1 : Int32))])) _
        exact retN X2 hx (t := .boolean) Bd.returns (by simp) (hb hby at_466) hr
      · show Qrm0 Z q1 q2 q3 p4 p5 p6 h0 n0 _ T2.heap _
        exact ⟨rfl, N2⟩
  · skip
    by_cases hc49 : p4 = (0 : Int32)
    · obtain ⟨T3, L3, Ls3, X3, N3, st3⟩ := own_tl1 hx hZ hw hby hml hown X0 e0 N0 Z0 hB1 hB2 hB3 hC1 hC2 hC3
      obtain ⟨fs, hr, hrun, hended, hW, hsame⟩ := X3.leave (v := some (.int (1 : Int32))) (fun h => by rw [Bd.returns] at h; cases h) (BodyLoose.notSynchronized Bd)
      refine ⟨_, _, pre0 _ ?_, hrun, hended, _, _, rfl, ?_, ⟨_, rfl⟩, hW, hsame.mono (by decide) (by decide)⟩
      · refine pro _ ?_
        show Steps p.tables e below (s₁.setTop (mkF m 47 #[.val (.long q1), .second, .val (.long q2), .second, .val (.long q3), .second, .val (.int p4), .val (.int p5), .val (.int p6), .val (.int (p6 &&& (3 : Int32))), .val (.long k1), .second, .val (.long v1), .second, .val (.long k2), .second, .val (.long v2), .second, .val (.long k3), .second, .val (.long v3), .second, .unset, .unset, .unset, .unset, .unset, .unset, .unset, .unset, .unset, .unset, .unset, .unset, .unset, .unset] [])) _
        rw [hn]
        show Steps p.tables e below (s₁.setTop (mkF m 47 #[.val (.long q1), .second, .val (.long q2), .second, .val (.long q3), .second, .val (.int p4), .val (.int p5), .val (.int p6), .val (.int (1 : Int32)), .val (.long k1), .second, .val (.long v1), .second, .val (.long k2), .second, .val (.long v2), .second, .val (.long k3), .second, .val (.long v3), .second, .unset, .unset, .unset, .unset, .unset, .unset, .unset, .unset, .unset, .unset, .unset, .unset, .unset, .unset] [])) _
        refine XS.iload X0.here hx rfl (hb hby at_47) rfl ?_
        refine XS.ifNo X0.here hx rfl (hb hby at_49) rfl ((if0 _ _).trans (teq hc49).2) ?_
        refine XS.iload X0.here hx rfl (hb hby at_52) rfl ?_
        refine XS.iconst X0.here hx rfl (hb hby at_54) ?_
        refine XS.icmpYes X0.here hx rfl (pc0 := 55) (pc' := 61) rfl (hb hby at_55) rfl (tlt (by decide)).1 (by decide) (by decide) ?_
        refine XS.iload X0.here hx rfl (hb hby at_61) rfl ?_
        refine XS.iconst X0.here hx rfl (hb hby at_63) ?_
        refine XS.icmpYes X0.here hx rfl (pc0 := 64) (pc' := 77) rfl (hb hby at_64) rfl (tlt (by decide)).1 (by decide) (by decide) ?_
        refine XS.iload X0.here hx rfl (hb hby at_77) rfl ?_
        refine XS.iconst X0.here hx rfl (hb hby at_79) ?_
        refine XS.icmpYes X0.here hx rfl (pc0 := 80) (pc' := 101) rfl (hb hby at_80) rfl (tlt (by decide)).1 (by decide) (by decide) ?_
        refine st3 _ ?_
        show Steps p.tables e below (T3.setTop (mkF m 466 Ls3 [(.int (1 : Int32))])) _
        exact retN X3 hx (t := .boolean) Bd.returns (by simp) (hb hby at_466) hr
      · show Qrm0 Z q1 q2 q3 p4 p5 p6 h0 n0 _ T3.heap _
        exact ⟨rfl, N3⟩
    · obtain ⟨T4, L4, Ls4, X4, N4, st4⟩ := own_tl1 hx hZ hw hby hml hown X0 e0 N0 Z0 hB1 hB2 hB3 hC1 hC2 hC3
      obtain ⟨fs, hr, hrun, hended, hW, hsame⟩ := X4.leave (v := some (.int (1 : Int32))) (fun h => by rw [Bd.returns] at h; cases h) (BodyLoose.notSynchronized Bd)
      refine ⟨_, _, pre0 _ ?_, hrun, hended, _, _, rfl, ?_, ⟨_, rfl⟩, hW, hsame.mono (by decide) (by decide)⟩
      · refine pro _ ?_
        show Steps p.tables e below (s₁.setTop (mkF m 47 #[.val (.long q1), .second, .val (.long q2), .second, .val (.long q3), .second, .val (.int p4), .val (.int p5), .val (.int p6), .val (.int (p6 &&& (3 : Int32))), .val (.long k1), .second, .val (.long v1), .second, .val (.long k2), .second, .val (.long v2), .second, .val (.long k3), .second, .val (.long v3), .second, .unset, .unset, .unset, .unset, .unset, .unset, .unset, .unset, .unset, .unset, .unset, .unset, .unset, .unset] [])) _
        rw [hn]
        show Steps p.tables e below (s₁.setTop (mkF m 47 #[.val (.long q1), .second, .val (.long q2), .second, .val (.long q3), .second, .val (.int p4), .val (.int p5), .val (.int p6), .val (.int (1 : Int32)), .val (.long k1), .second, .val (.long v1), .second, .val (.long k2), .second, .val (.long v2), .second, .val (.long k3), .second, .val (.long v3), .second, .unset, .unset, .unset, .unset, .unset, .unset, .unset, .unset, .unset, .unset, .unset, .unset, .unset, .unset] [])) _
        refine XS.iload X0.here hx rfl (hb hby at_47) rfl ?_
        refine XS.ifYes X0.here hx rfl (pc0 := 49) (pc' := 61) rfl (hb hby at_49) rfl ((if0 _ _).trans (feq hc49).2) (by decide) (by decide) ?_
        refine XS.iload X0.here hx rfl (hb hby at_61) rfl ?_
        refine XS.iconst X0.here hx rfl (hb hby at_63) ?_
        refine XS.icmpYes X0.here hx rfl (pc0 := 64) (pc' := 77) rfl (hb hby at_64) rfl (tlt (by decide)).1 (by decide) (by decide) ?_
        refine XS.iload X0.here hx rfl (hb hby at_77) rfl ?_
        refine XS.iconst X0.here hx rfl (hb hby at_79) ?_
        refine XS.icmpYes X0.here hx rfl (pc0 := 80) (pc' := 101) rfl (hb hby at_80) rfl (tlt (by decide)).1 (by decide) (by decide) ?_
        refine st4 _ ?_
        show Steps p.tables e below (T4.setTop (mkF m 466 Ls4 [(.int (1 : Int32))])) _
        exact retN X4 hx (t := .boolean) Bd.returns (by simp) (hb hby at_466) hr
      · show Qrm0 Z q1 q2 q3 p4 p5 p6 h0 n0 _ T4.heap _
        exact ⟨rfl, N4⟩
  · skip
    by_cases hc49 : p4 = (0 : Int32)
    · obtain ⟨T5, L5, Ls5, X5, N5, st5⟩ := own_tl1 hx hZ hw hby hml hown X0 e0 N0 Z0 hB1 hB2 hB3 hC1 hC2 hC3
      obtain ⟨fs, hr, hrun, hended, hW, hsame⟩ := X5.leave (v := some (.int (1 : Int32))) (fun h => by rw [Bd.returns] at h; cases h) (BodyLoose.notSynchronized Bd)
      refine ⟨_, _, pre0 _ ?_, hrun, hended, _, _, rfl, ?_, ⟨_, rfl⟩, hW, hsame.mono (by decide) (by decide)⟩
      · refine pro _ ?_
        show Steps p.tables e below (s₁.setTop (mkF m 47 #[.val (.long q1), .second, .val (.long q2), .second, .val (.long q3), .second, .val (.int p4), .val (.int p5), .val (.int p6), .val (.int (p6 &&& (3 : Int32))), .val (.long k1), .second, .val (.long v1), .second, .val (.long k2), .second, .val (.long v2), .second, .val (.long k3), .second, .val (.long v3), .second, .unset, .unset, .unset, .unset, .unset, .unset, .unset, .unset, .unset, .unset, .unset, .unset, .unset, .unset] [])) _
        rw [hn]
        show Steps p.tables e below (s₁.setTop (mkF m 47 #[.val (.long q1), .second, .val (.long q2), .second, .val (.long q3), .second, .val (.int p4), .val (.int p5), .val (.int p6), .val (.int (2 : Int32)), .val (.long k1), .second, .val (.long v1), .second, .val (.long k2), .second, .val (.long v2), .second, .val (.long k3), .second, .val (.long v3), .second, .unset, .unset, .unset, .unset, .unset, .unset, .unset, .unset, .unset, .unset, .unset, .unset, .unset, .unset] [])) _
        refine XS.iload X0.here hx rfl (hb hby at_47) rfl ?_
        refine XS.ifNo X0.here hx rfl (hb hby at_49) rfl ((if0 _ _).trans (teq hc49).2) ?_
        refine XS.iload X0.here hx rfl (hb hby at_52) rfl ?_
        refine XS.iconst X0.here hx rfl (hb hby at_54) ?_
        refine XS.icmpNo X0.here hx rfl (hb hby at_55) rfl (flt (by decide)).1 ?_
        refine XS.iconst X0.here hx rfl (hb hby at_58) ?_
        refine XS.istore X0.here hx rfl (hb hby at_59) rfl (l' := #[.val (.long q1), .second, .val (.long q2), .second, .val (.long q3), .second, .val (.int p4), .val (.int p5), .val (.int p6), .val (.int (1 : Int32)), .val (.long k1), .second, .val (.long v1), .second, .val (.long k2), .second, .val (.long v2), .second, .val (.long k3), .second, .val (.long v3), .second, .unset, .unset, .unset, .unset, .unset, .unset, .unset, .unset, .unset, .unset, .unset, .unset, .unset, .unset]) rfl ?_
        refine XS.iload X0.here hx rfl (hb hby at_61) rfl ?_
        refine XS.iconst X0.here hx rfl (hb hby at_63) ?_
        refine XS.icmpYes X0.here hx rfl (pc0 := 64) (pc' := 77) rfl (hb hby at_64) rfl (tlt (by decide)).1 (by decide) (by decide) ?_
        refine XS.iload X0.here hx rfl (hb hby at_77) rfl ?_
        refine XS.iconst X0.here hx rfl (hb hby at_79) ?_
        refine XS.icmpYes X0.here hx rfl (pc0 := 80) (pc' := 101) rfl (hb hby at_80) rfl (tlt (by decide)).1 (by decide) (by decide) ?_
        refine st5 _ ?_
        show Steps p.tables e below (T5.setTop (mkF m 466 Ls5 [(.int (1 : Int32))])) _
        exact retN X5 hx (t := .boolean) Bd.returns (by simp) (hb hby at_466) hr
      · show Qrm0 Z q1 q2 q3 p4 p5 p6 h0 n0 _ T5.heap _
        exact ⟨rfl, N5⟩
    · by_cases hc72 : k1 = k2
      · obtain ⟨fs, hr, hrun, hended, hW, hsame⟩ := X0.leave (v := some (.int (1 : Int32))) (fun h => by rw [Bd.returns] at h; cases h) (BodyLoose.notSynchronized Bd)
        refine ⟨_, _, pre0 _ ?_, hrun, hended, _, _, rfl, ?_, ⟨_, rfl⟩, hW, hsame.mono (by decide) (by decide)⟩
        · refine pro _ ?_
          show Steps p.tables e below (s₁.setTop (mkF m 47 #[.val (.long q1), .second, .val (.long q2), .second, .val (.long q3), .second, .val (.int p4), .val (.int p5), .val (.int p6), .val (.int (p6 &&& (3 : Int32))), .val (.long k1), .second, .val (.long v1), .second, .val (.long k2), .second, .val (.long v2), .second, .val (.long k3), .second, .val (.long v3), .second, .unset, .unset, .unset, .unset, .unset, .unset, .unset, .unset, .unset, .unset, .unset, .unset, .unset, .unset] [])) _
          rw [hn]
          show Steps p.tables e below (s₁.setTop (mkF m 47 #[.val (.long q1), .second, .val (.long q2), .second, .val (.long q3), .second, .val (.int p4), .val (.int p5), .val (.int p6), .val (.int (2 : Int32)), .val (.long k1), .second, .val (.long v1), .second, .val (.long k2), .second, .val (.long v2), .second, .val (.long k3), .second, .val (.long v3), .second, .unset, .unset, .unset, .unset, .unset, .unset, .unset, .unset, .unset, .unset, .unset, .unset, .unset, .unset] [])) _
          refine XS.iload X0.here hx rfl (hb hby at_47) rfl ?_
          refine XS.ifYes X0.here hx rfl (pc0 := 49) (pc' := 61) rfl (hb hby at_49) rfl ((if0 _ _).trans (feq hc49).2) (by decide) (by decide) ?_
          refine XS.iload X0.here hx rfl (hb hby at_61) rfl ?_
          refine XS.iconst X0.here hx rfl (hb hby at_63) ?_
          refine XS.icmpNo X0.here hx rfl (hb hby at_64) rfl (flt (by decide)).1 ?_
          refine XS.lload X0.here hx rfl (hb hby at_67) rfl ?_
          refine XS.lload X0.here hx rfl (hb hby at_69) rfl ?_
          refine XS.lcmp X0.here hx rfl (hb hby at_71) rfl ?_
          refine XS.ifNo X0.here hx rfl (hb hby at_72) rfl ((if0 _ _).trans (teq (own_lceq hc72)).2) ?_
          refine XS.iconst X0.here hx rfl (hb hby at_75) ?_
          show Steps p.tables e below (s₁.setTop (mkF m 76 #[.val (.long q1), .second, .val (.long q2), .second, .val (.long q3), .second, .val (.int p4), .val (.int p5), .val (.int p6), .val (.int (2 : Int32)), .val (.long k1), .second, .val (.long v1), .second, .val (.long k2), .second, .val (.long v2), .second, .val (.long k3), .second, .val (.long v3), .second, .unset, .unset, .unset, .unset, .unset, .unset, .unset, .unset, .unset, .unset, .unset, .unset, .unset, .unset] [(.int (1 : Int32))])) _
          exact retN X0 hx (t := .boolean) Bd.returns (by simp) (hb hby at_76) hr
        · show Qrm0 Z q1 q2 q3 p4 p5 p6 h0 n0 _ s₁.heap _
          exact ⟨rfl, N0⟩
      · obtain ⟨T6, L6, Ls6, X6, N6, st6⟩ := own_tl2 hx hZ hw hby hml hown X0 e0 N0 Z0 hB1 hB2 hB3 hC1 hC2 hC3 hc49 hc72
        obtain ⟨fs, hr, hrun, hended, hW, hsame⟩ := X6.leave (v := some (.int (1 : Int32))) (fun h => by rw [Bd.returns] at h; cases h) (BodyLoose.notSynchronized Bd)
        refine ⟨_, _, pre0 _ ?_, hrun, hended, _, _, rfl, ?_, ⟨_, rfl⟩, hW, hsame.mono (by decide) (by decide)⟩
        · refine pro _ ?_
          show Steps p.tables e below (s₁.setTop (mkF m 47 #[.val (.long q1), .second, .val (.long q2), .second, .val (.long q3), .second, .val (.int p4), .val (.int p5), .val (.int p6), .val (.int (p6 &&& (3 : Int32))), .val (.long k1), .second, .val (.long v1), .second, .val (.long k2), .second, .val (.long v2), .second, .val (.long k3), .second, .val (.long v3), .second, .unset, .unset, .unset, .unset, .unset, .unset, .unset, .unset, .unset, .unset, .unset, .unset, .unset, .unset] [])) _
          rw [hn]
          show Steps p.tables e below (s₁.setTop (mkF m 47 #[.val (.long q1), .second, .val (.long q2), .second, .val (.long q3), .second, .val (.int p4), .val (.int p5), .val (.int p6), .val (.int (2 : Int32)), .val (.long k1), .second, .val (.long v1), .second, .val (.long k2), .second, .val (.long v2), .second, .val (.long k3), .second, .val (.long v3), .second, .unset, .unset, .unset, .unset, .unset, .unset, .unset, .unset, .unset, .unset, .unset, .unset, .unset, .unset] [])) _
          refine XS.iload X0.here hx rfl (hb hby at_47) rfl ?_
          refine XS.ifYes X0.here hx rfl (pc0 := 49) (pc' := 61) rfl (hb hby at_49) rfl ((if0 _ _).trans (feq hc49).2) (by decide) (by decide) ?_
          refine XS.iload X0.here hx rfl (hb hby at_61) rfl ?_
          refine XS.iconst X0.here hx rfl (hb hby at_63) ?_
          refine XS.icmpNo X0.here hx rfl (hb hby at_64) rfl (flt (by decide)).1 ?_
          refine XS.lload X0.here hx rfl (hb hby at_67) rfl ?_
          refine XS.lload X0.here hx rfl (hb hby at_69) rfl ?_
          refine XS.lcmp X0.here hx rfl (hb hby at_71) rfl ?_
          refine XS.ifYes X0.here hx rfl (pc0 := 72) (pc' := 77) rfl (hb hby at_72) rfl ((if0 _ _).trans (feq (own_lcne hc72)).2) (by decide) (by decide) ?_
          refine XS.iload X0.here hx rfl (hb hby at_77) rfl ?_
          refine XS.iconst X0.here hx rfl (hb hby at_79) ?_
          refine XS.icmpYes X0.here hx rfl (pc0 := 80) (pc' := 101) rfl (hb hby at_80) rfl (tlt (by decide)).1 (by decide) (by decide) ?_
          refine st6 _ ?_
          show Steps p.tables e below (T6.setTop (mkF m 466 Ls6 [(.int (1 : Int32))])) _
          exact retN X6 hx (t := .boolean) Bd.returns (by simp) (hb hby at_466) hr
        · show Qrm0 Z q1 q2 q3 p4 p5 p6 h0 n0 _ T6.heap _
          exact ⟨rfl, N6⟩
  · skip
    by_cases hc49 : p4 = (0 : Int32)
    · obtain ⟨T7, L7, Ls7, X7, N7, st7⟩ := own_tl1 hx hZ hw hby hml hown X0 e0 N0 Z0 hB1 hB2 hB3 hC1 hC2 hC3
      obtain ⟨fs, hr, hrun, hended, hW, hsame⟩ := X7.leave (v := some (.int (1 : Int32))) (fun h => by rw [Bd.returns] at h; cases h) (BodyLoose.notSynchronized Bd)
      refine ⟨_, _, pre0 _ ?_, hrun, hended, _, _, rfl, ?_, ⟨_, rfl⟩, hW, hsame.mono (by decide) (by decide)⟩
      · refine pro _ ?_
        show Steps p.tables e below (s₁.setTop (mkF m 47 #[.val (.long q1), .second, .val (.long q2), .second, .val (.long q3), .second, .val (.int p4), .val (.int p5), .val (.int p6), .val (.int (p6 &&& (3 : Int32))), .val (.long k1), .second, .val (.long v1), .second, .val (.long k2), .second, .val (.long v2), .second, .val (.long k3), .second, .val (.long v3), .second, .unset, .unset, .unset, .unset, .unset, .unset, .unset, .unset, .unset, .unset, .unset, .unset, .unset, .unset] [])) _
        rw [hn]
        show Steps p.tables e below (s₁.setTop (mkF m 47 #[.val (.long q1), .second, .val (.long q2), .second, .val (.long q3), .second, .val (.int p4), .val (.int p5), .val (.int p6), .val (.int (3 : Int32)), .val (.long k1), .second, .val (.long v1), .second, .val (.long k2), .second, .val (.long v2), .second, .val (.long k3), .second, .val (.long v3), .second, .unset, .unset, .unset, .unset, .unset, .unset, .unset, .unset, .unset, .unset, .unset, .unset, .unset, .unset] [])) _
        refine XS.iload X0.here hx rfl (hb hby at_47) rfl ?_
        refine XS.ifNo X0.here hx rfl (hb hby at_49) rfl ((if0 _ _).trans (teq hc49).2) ?_
        refine XS.iload X0.here hx rfl (hb hby at_52) rfl ?_
        refine XS.iconst X0.here hx rfl (hb hby at_54) ?_
        refine XS.icmpNo X0.here hx rfl (hb hby at_55) rfl (flt (by decide)).1 ?_
        refine XS.iconst X0.here hx rfl (hb hby at_58) ?_
        refine XS.istore X0.here hx rfl (hb hby at_59) rfl (l' := #[.val (.long q1), .second, .val (.long q2), .second, .val (.long q3), .second, .val (.int p4), .val (.int p5), .val (.int p6), .val (.int (1 : Int32)), .val (.long k1), .second, .val (.long v1), .second, .val (.long k2), .second, .val (.long v2), .second, .val (.long k3), .second, .val (.long v3), .second, .unset, .unset, .unset, .unset, .unset, .unset, .unset, .unset, .unset, .unset, .unset, .unset, .unset, .unset]) rfl ?_
        refine XS.iload X0.here hx rfl (hb hby at_61) rfl ?_
        refine XS.iconst X0.here hx rfl (hb hby at_63) ?_
        refine XS.icmpYes X0.here hx rfl (pc0 := 64) (pc' := 77) rfl (hb hby at_64) rfl (tlt (by decide)).1 (by decide) (by decide) ?_
        refine XS.iload X0.here hx rfl (hb hby at_77) rfl ?_
        refine XS.iconst X0.here hx rfl (hb hby at_79) ?_
        refine XS.icmpYes X0.here hx rfl (pc0 := 80) (pc' := 101) rfl (hb hby at_80) rfl (tlt (by decide)).1 (by decide) (by decide) ?_
        refine st7 _ ?_
        show Steps p.tables e below (T7.setTop (mkF m 466 Ls7 [(.int (1 : Int32))])) _
        exact retN X7 hx (t := .boolean) Bd.returns (by simp) (hb hby at_466) hr
      · show Qrm0 Z q1 q2 q3 p4 p5 p6 h0 n0 _ T7.heap _
        exact ⟨rfl, N7⟩
    · by_cases hc72 : k1 = k2
      · obtain ⟨fs, hr, hrun, hended, hW, hsame⟩ := X0.leave (v := some (.int (1 : Int32))) (fun h => by rw [Bd.returns] at h; cases h) (BodyLoose.notSynchronized Bd)
        refine ⟨_, _, pre0 _ ?_, hrun, hended, _, _, rfl, ?_, ⟨_, rfl⟩, hW, hsame.mono (by decide) (by decide)⟩
        · refine pro _ ?_
          show Steps p.tables e below (s₁.setTop (mkF m 47 #[.val (.long q1), .second, .val (.long q2), .second, .val (.long q3), .second, .val (.int p4), .val (.int p5), .val (.int p6), .val (.int (p6 &&& (3 : Int32))), .val (.long k1), .second, .val (.long v1), .second, .val (.long k2), .second, .val (.long v2), .second, .val (.long k3), .second, .val (.long v3), .second, .unset, .unset, .unset, .unset, .unset, .unset, .unset, .unset, .unset, .unset, .unset, .unset, .unset, .unset] [])) _
          rw [hn]
          show Steps p.tables e below (s₁.setTop (mkF m 47 #[.val (.long q1), .second, .val (.long q2), .second, .val (.long q3), .second, .val (.int p4), .val (.int p5), .val (.int p6), .val (.int (3 : Int32)), .val (.long k1), .second, .val (.long v1), .second, .val (.long k2), .second, .val (.long v2), .second, .val (.long k3), .second, .val (.long v3), .second, .unset, .unset, .unset, .unset, .unset, .unset, .unset, .unset, .unset, .unset, .unset, .unset, .unset, .unset] [])) _
          refine XS.iload X0.here hx rfl (hb hby at_47) rfl ?_
          refine XS.ifYes X0.here hx rfl (pc0 := 49) (pc' := 61) rfl (hb hby at_49) rfl ((if0 _ _).trans (feq hc49).2) (by decide) (by decide) ?_
          refine XS.iload X0.here hx rfl (hb hby at_61) rfl ?_
          refine XS.iconst X0.here hx rfl (hb hby at_63) ?_
          refine XS.icmpNo X0.here hx rfl (hb hby at_64) rfl (flt (by decide)).1 ?_
          refine XS.lload X0.here hx rfl (hb hby at_67) rfl ?_
          refine XS.lload X0.here hx rfl (hb hby at_69) rfl ?_
          refine XS.lcmp X0.here hx rfl (hb hby at_71) rfl ?_
          refine XS.ifNo X0.here hx rfl (hb hby at_72) rfl ((if0 _ _).trans (teq (own_lceq hc72)).2) ?_
          refine XS.iconst X0.here hx rfl (hb hby at_75) ?_
          show Steps p.tables e below (s₁.setTop (mkF m 76 #[.val (.long q1), .second, .val (.long q2), .second, .val (.long q3), .second, .val (.int p4), .val (.int p5), .val (.int p6), .val (.int (3 : Int32)), .val (.long k1), .second, .val (.long v1), .second, .val (.long k2), .second, .val (.long v2), .second, .val (.long k3), .second, .val (.long v3), .second, .unset, .unset, .unset, .unset, .unset, .unset, .unset, .unset, .unset, .unset, .unset, .unset, .unset, .unset] [(.int (1 : Int32))])) _
          exact retN X0 hx (t := .boolean) Bd.returns (by simp) (hb hby at_76) hr
        · show Qrm0 Z q1 q2 q3 p4 p5 p6 h0 n0 _ s₁.heap _
          exact ⟨rfl, N0⟩
      · by_cases hc88 : k3 = k1
        · obtain ⟨fs, hr, hrun, hended, hW, hsame⟩ := X0.leave (v := some (.int (1 : Int32))) (fun h => by rw [Bd.returns] at h; cases h) (BodyLoose.notSynchronized Bd)
          refine ⟨_, _, pre0 _ ?_, hrun, hended, _, _, rfl, ?_, ⟨_, rfl⟩, hW, hsame.mono (by decide) (by decide)⟩
          · refine pro _ ?_
            show Steps p.tables e below (s₁.setTop (mkF m 47 #[.val (.long q1), .second, .val (.long q2), .second, .val (.long q3), .second, .val (.int p4), .val (.int p5), .val (.int p6), .val (.int (p6 &&& (3 : Int32))), .val (.long k1), .second, .val (.long v1), .second, .val (.long k2), .second, .val (.long v2), .second, .val (.long k3), .second, .val (.long v3), .second, .unset, .unset, .unset, .unset, .unset, .unset, .unset, .unset, .unset, .unset, .unset, .unset, .unset, .unset] [])) _
            rw [hn]
            show Steps p.tables e below (s₁.setTop (mkF m 47 #[.val (.long q1), .second, .val (.long q2), .second, .val (.long q3), .second, .val (.int p4), .val (.int p5), .val (.int p6), .val (.int (3 : Int32)), .val (.long k1), .second, .val (.long v1), .second, .val (.long k2), .second, .val (.long v2), .second, .val (.long k3), .second, .val (.long v3), .second, .unset, .unset, .unset, .unset, .unset, .unset, .unset, .unset, .unset, .unset, .unset, .unset, .unset, .unset] [])) _
            refine XS.iload X0.here hx rfl (hb hby at_47) rfl ?_
            refine XS.ifYes X0.here hx rfl (pc0 := 49) (pc' := 61) rfl (hb hby at_49) rfl ((if0 _ _).trans (feq hc49).2) (by decide) (by decide) ?_
            refine XS.iload X0.here hx rfl (hb hby at_61) rfl ?_
            refine XS.iconst X0.here hx rfl (hb hby at_63) ?_
            refine XS.icmpNo X0.here hx rfl (hb hby at_64) rfl (flt (by decide)).1 ?_
            refine XS.lload X0.here hx rfl (hb hby at_67) rfl ?_
            refine XS.lload X0.here hx rfl (hb hby at_69) rfl ?_
            refine XS.lcmp X0.here hx rfl (hb hby at_71) rfl ?_
            refine XS.ifYes X0.here hx rfl (pc0 := 72) (pc' := 77) rfl (hb hby at_72) rfl ((if0 _ _).trans (feq (own_lcne hc72)).2) (by decide) (by decide) ?_
            refine XS.iload X0.here hx rfl (hb hby at_77) rfl ?_
            refine XS.iconst X0.here hx rfl (hb hby at_79) ?_
            refine XS.icmpNo X0.here hx rfl (hb hby at_80) rfl (flt (by decide)).1 ?_
            refine XS.lload X0.here hx rfl (hb hby at_83) rfl ?_
            refine XS.lload X0.here hx rfl (hb hby at_85) rfl ?_
            refine XS.lcmp X0.here hx rfl (hb hby at_87) rfl ?_
            refine XS.ifYes X0.here hx rfl (pc0 := 88) (pc' := 99) rfl (hb hby at_88) rfl ((if0 _ _).trans (teq (own_lceq hc88)).1) (by decide) (by decide) ?_
            refine XS.iconst X0.here hx rfl (hb hby at_99) ?_
            show Steps p.tables e below (s₁.setTop (mkF m 100 #[.val (.long q1), .second, .val (.long q2), .second, .val (.long q3), .second, .val (.int p4), .val (.int p5), .val (.int p6), .val (.int (3 : Int32)), .val (.long k1), .second, .val (.long v1), .second, .val (.long k2), .second, .val (.long v2), .second, .val (.long k3), .second, .val (.long v3), .second, .unset, .unset, .unset, .unset, .unset, .unset, .unset, .unset, .unset, .unset, .unset, .unset, .unset, .unset] [(.int (1 : Int32))])) _
            exact retN X0 hx (t := .boolean) Bd.returns (by simp) (hb hby at_100) hr
          · show Qrm0 Z q1 q2 q3 p4 p5 p6 h0 n0 _ s₁.heap _
            exact ⟨rfl, N0⟩
        · by_cases hc96 : k3 = k2
          · obtain ⟨fs, hr, hrun, hended, hW, hsame⟩ := X0.leave (v := some (.int (1 : Int32))) (fun h => by rw [Bd.returns] at h; cases h) (BodyLoose.notSynchronized Bd)
            refine ⟨_, _, pre0 _ ?_, hrun, hended, _, _, rfl, ?_, ⟨_, rfl⟩, hW, hsame.mono (by decide) (by decide)⟩
            · refine pro _ ?_
              show Steps p.tables e below (s₁.setTop (mkF m 47 #[.val (.long q1), .second, .val (.long q2), .second, .val (.long q3), .second, .val (.int p4), .val (.int p5), .val (.int p6), .val (.int (p6 &&& (3 : Int32))), .val (.long k1), .second, .val (.long v1), .second, .val (.long k2), .second, .val (.long v2), .second, .val (.long k3), .second, .val (.long v3), .second, .unset, .unset, .unset, .unset, .unset, .unset, .unset, .unset, .unset, .unset, .unset, .unset, .unset, .unset] [])) _
              rw [hn]
              show Steps p.tables e below (s₁.setTop (mkF m 47 #[.val (.long q1), .second, .val (.long q2), .second, .val (.long q3), .second, .val (.int p4), .val (.int p5), .val (.int p6), .val (.int (3 : Int32)), .val (.long k1), .second, .val (.long v1), .second, .val (.long k2), .second, .val (.long v2), .second, .val (.long k3), .second, .val (.long v3), .second, .unset, .unset, .unset, .unset, .unset, .unset, .unset, .unset, .unset, .unset, .unset, .unset, .unset, .unset] [])) _
              refine XS.iload X0.here hx rfl (hb hby at_47) rfl ?_
              refine XS.ifYes X0.here hx rfl (pc0 := 49) (pc' := 61) rfl (hb hby at_49) rfl ((if0 _ _).trans (feq hc49).2) (by decide) (by decide) ?_
              refine XS.iload X0.here hx rfl (hb hby at_61) rfl ?_
              refine XS.iconst X0.here hx rfl (hb hby at_63) ?_
              refine XS.icmpNo X0.here hx rfl (hb hby at_64) rfl (flt (by decide)).1 ?_
              refine XS.lload X0.here hx rfl (hb hby at_67) rfl ?_
              refine XS.lload X0.here hx rfl (hb hby at_69) rfl ?_
              refine XS.lcmp X0.here hx rfl (hb hby at_71) rfl ?_
              refine XS.ifYes X0.here hx rfl (pc0 := 72) (pc' := 77) rfl (hb hby at_72) rfl ((if0 _ _).trans (feq (own_lcne hc72)).2) (by decide) (by decide) ?_
              refine XS.iload X0.here hx rfl (hb hby at_77) rfl ?_
              refine XS.iconst X0.here hx rfl (hb hby at_79) ?_
              refine XS.icmpNo X0.here hx rfl (hb hby at_80) rfl (flt (by decide)).1 ?_
              refine XS.lload X0.here hx rfl (hb hby at_83) rfl ?_
              refine XS.lload X0.here hx rfl (hb hby at_85) rfl ?_
              refine XS.lcmp X0.here hx rfl (hb hby at_87) rfl ?_
              refine XS.ifNo X0.here hx rfl (hb hby at_88) rfl ((if0 _ _).trans (feq (own_lcne hc88)).1) ?_
              refine XS.lload X0.here hx rfl (hb hby at_91) rfl ?_
              refine XS.lload X0.here hx rfl (hb hby at_93) rfl ?_
              refine XS.lcmp X0.here hx rfl (hb hby at_95) rfl ?_
              refine XS.ifNo X0.here hx rfl (hb hby at_96) rfl ((if0 _ _).trans (teq (own_lceq hc96)).2) ?_
              refine XS.iconst X0.here hx rfl (hb hby at_99) ?_
              show Steps p.tables e below (s₁.setTop (mkF m 100 #[.val (.long q1), .second, .val (.long q2), .second, .val (.long q3), .second, .val (.int p4), .val (.int p5), .val (.int p6), .val (.int (3 : Int32)), .val (.long k1), .second, .val (.long v1), .second, .val (.long k2), .second, .val (.long v2), .second, .val (.long k3), .second, .val (.long v3), .second, .unset, .unset, .unset, .unset, .unset, .unset, .unset, .unset, .unset, .unset, .unset, .unset, .unset, .unset] [(.int (1 : Int32))])) _
              exact retN X0 hx (t := .boolean) Bd.returns (by simp) (hb hby at_100) hr
            · show Qrm0 Z q1 q2 q3 p4 p5 p6 h0 n0 _ s₁.heap _
              exact ⟨rfl, N0⟩
          · obtain ⟨T8, L8, Ls8, X8, N8, st8⟩ := own_tl3 hx hZ hw hby hml hown X0 e0 N0 Z0 hB1 hB2 hB3 hC1 hC2 hC3 hc49 hc72 hc88 hc96
            obtain ⟨fs, hr, hrun, hended, hW, hsame⟩ := X8.leave (v := some (.int (1 : Int32))) (fun h => by rw [Bd.returns] at h; cases h) (BodyLoose.notSynchronized Bd)
            refine ⟨_, _, pre0 _ ?_, hrun, hended, _, _, rfl, ?_, ⟨_, rfl⟩, hW, hsame.mono (by decide) (by decide)⟩
            · refine pro _ ?_
              show Steps p.tables e below (s₁.setTop (mkF m 47 #[.val (.long q1), .second, .val (.long q2), .second, .val (.long q3), .second, .val (.int p4), .val (.int p5), .val (.int p6), .val (.int (p6 &&& (3 : Int32))), .val (.long k1), .second, .val (.long v1), .second, .val (.long k2), .second, .val (.long v2), .second, .val (.long k3), .second, .val (.long v3), .second, .unset, .unset, .unset, .unset, .unset, .unset, .unset, .unset, .unset, .unset, .unset, .unset, .unset, .unset] [])) _
              rw [hn]
              show Steps p.tables e below (s₁.setTop (mkF m 47 #[.val (.long q1), .second, .val (.long q2), .second, .val (.long q3), .second, .val (.int p4), .val (.int p5), .val (.int p6), .val (.int (3 : Int32)), .val (.long k1), .second, .val (.long v1), .second, .val (.long k2), .second, .val (.long v2), .second, .val (.long k3), .second, .val (.long v3), .second, .unset, .unset, .unset, .unset, .unset, .unset, .unset, .unset, .unset, .unset, .unset, .unset, .unset, .unset] [])) _
              refine XS.iload X0.here hx rfl (hb hby at_47) rfl ?_
              refine XS.ifYes X0.here hx rfl (pc0 := 49) (pc' := 61) rfl (hb hby at_49) rfl ((if0 _ _).trans (feq hc49).2) (by decide) (by decide) ?_
              refine XS.iload X0.here hx rfl (hb hby at_61) rfl ?_
              refine XS.iconst X0.here hx rfl (hb hby at_63) ?_
              refine XS.icmpNo X0.here hx rfl (hb hby at_64) rfl (flt (by decide)).1 ?_
              refine XS.lload X0.here hx rfl (hb hby at_67) rfl ?_
              refine XS.lload X0.here hx rfl (hb hby at_69) rfl ?_
              refine XS.lcmp X0.here hx rfl (hb hby at_71) rfl ?_
              refine XS.ifYes X0.here hx rfl (pc0 := 72) (pc' := 77) rfl (hb hby at_72) rfl ((if0 _ _).trans (feq (own_lcne hc72)).2) (by decide) (by decide) ?_
              refine XS.iload X0.here hx rfl (hb hby at_77) rfl ?_
              refine XS.iconst X0.here hx rfl (hb hby at_79) ?_
              refine XS.icmpNo X0.here hx rfl (hb hby at_80) rfl (flt (by decide)).1 ?_
              refine XS.lload X0.here hx rfl (hb hby at_83) rfl ?_
              refine XS.lload X0.here hx rfl (hb hby at_85) rfl ?_
              refine XS.lcmp X0.here hx rfl (hb hby at_87) rfl ?_
              refine XS.ifNo X0.here hx rfl (hb hby at_88) rfl ((if0 _ _).trans (feq (own_lcne hc88)).1) ?_
              refine XS.lload X0.here hx rfl (hb hby at_91) rfl ?_
              refine XS.lload X0.here hx rfl (hb hby at_93) rfl ?_
              refine XS.lcmp X0.here hx rfl (hb hby at_95) rfl ?_
              refine XS.ifYes X0.here hx rfl (pc0 := 96) (pc' := 101) rfl (hb hby at_96) rfl ((if0 _ _).trans (feq (own_lcne hc96)).2) (by decide) (by decide) ?_
              refine st8 _ ?_
              show Steps p.tables e below (T8.setTop (mkF m 466 Ls8 [(.int (1 : Int32))])) _
              exact retN X8 hx (t := .boolean) Bd.returns (by simp) (hb hby at_466) hr
            · show Qrm0 Z q1 q2 q3 p4 p5 p6 h0 n0 _ T8.heap _
              exact ⟨rfl, N8⟩
set_option maxRecDepth 65536 in
set_option maxHeartbeats 40000000 in
theorem comes_1 {Post : Tables → Env → Array Value → State → Outcome → State → Prop} (hpost : ∀ tb e args s v u, (limb_1_1.after args s (.returned v) u = true ∧ limb_1_2.after args s (.returned v) u = true) → FrameEnd s (.returned v) u (Jvm.fieldLocs frame_1_writes args s ++ Jvm.arrayLocs frame_1_arrays args s ++ Jvm.staticLocs frame_1_statics s) 24 192 → Post tb e args s (.returned v) u) :
    ArmFor flags0 classFile x code maxLocals ret World_1 tables_1 room_1 Calls_1 rest_1 Pre_1 Post := by
  intro l hfl _ _ p e ha hc hk s m args below hf hA hF happ hP
  obtain ⟨hcalls, hrest, hpre⟩ := hP
  obtain ⟨-, -, -, hnamed, -, -, -, hat⟩ := (Spec.applies_iff hf).mp happ
  obtain ⟨hg, hn⟩ := and_e (Cond.before_iff.mp (show (Jvm.Cond.and given_1 narrow_1).before args s = true from hpre))
  obtain ⟨hcount, hg0⟩ := and_e hg
  obtain ⟨ha0, hg1⟩ := and_e hg0
  obtain ⟨ha1, hg2⟩ := and_e hg1
  obtain ⟨ha2, hg3⟩ := and_e hg2
  obtain ⟨ha3, hg4⟩ := and_e hg3
  obtain ⟨ha4, hg5⟩ := and_e hg4
  obtain ⟨w0, w1, w2, w3, w4, w5, rfl⟩ : ∃ w0 w1 w2 w3 w4 w5 : Value, args = #[w0, w1, w2, w3, w4, w5] := by
    have hs : args.size = 6 := by simpa [Cond.value, given_1] using hcount
    obtain ⟨L⟩ := args
    match L, hs with
    | [w0, w1, w2, w3, w4, w5], _ => exact ⟨w0, w1, w2, w3, w4, w5, rfl⟩
  have hw := fun d (hd : d ∈ tables_1) => atoms_spec (ws := Jvm.Cond.code x code maxLocals ret :: tables_1) hat d (List.mem_cons_of_mem _ hd)
  have hfit : Fit s := fun {y c} hc i hi => by
    obtain ⟨ha, rfl⟩ := Array.getElem?_eq_some_iff.mp hc
    have q := List.all_eq_true.mp ((Array.all_eq_true_iff_forall_mem.mp hF) _ (Array.getElem_mem ha)) i (List.mem_range.mpr hi)
    simpa [Array.getElem?_eq_getElem hi] using q
  obtain ⟨i0, ei0⟩ := isL_v ha0
  obtain rfl : w0 = (.long i0) := Option.some.inj ei0
  obtain ⟨i1, ei1⟩ := isL_v ha1
  obtain rfl : w1 = (.long i1) := Option.some.inj ei1
  obtain ⟨i2, ei2⟩ := isL_v ha2
  obtain rfl : w2 = (.long i2) := Option.some.inj ei2
  obtain ⟨i3, ei3⟩ := is_v ha3
  obtain rfl : w3 = (.int i3) := Option.some.inj ei3
  obtain ⟨i4, ei4⟩ := is_v ha4
  obtain rfl : w4 = (.int i4) := Option.some.inj ei4
  obtain ⟨i5, ei5⟩ := is_v hg5
  obtain rfl : w5 = (.int i5) := Option.some.inj ei5
  obtain ⟨n, o, h1, h2, h3, _, L, rfl, ⟨rfl, N⟩, hq⟩ := rm0 l s _ hw tables_1 i0 i1 i2 i3 i4 i5  s.heap s.heap.size (Nat.le_refl _)  p e ha hc hk s m _ below hf ((Spec.applies_iff_loose hf).mp happ).1 ⟨rfl, State.Warmed39.refl s, rfl⟩ trivial
  refine ⟨n, _, h1, h2, h3, hpost _ _ _ _ _ _ ⟨Cond.after_iff.mpr rfl, Cond.after_iff.mpr (eq_i res_at (Term.int_eval (1)) rfl)⟩ ⟨hq.1, hq.2.1, (hq.2.2.sift fun y hy => Or.inr (N y hy)).mono (by decide) (by decide)⟩⟩
theorem main_1_1 : Claimed_1_1 := comes_1 fun _ _ _ _ _ _ h hF => ⟨h.1, hF⟩
theorem main_1_2 : Claimed_1_2 := comes_1 fun _ _ _ _ _ _ h hF => ⟨h.2, hF⟩
end Jvm.Pilot.@@N@@
namespace Jvm.Pilot.@@N@@
open Jvm Jvm.ClassFile Sem Op Lib Jvm.Free Jvm.Stand Jvm.Pilot.@@N@@.Jvm.D
/-! MADE BY PROGRAM (witnessworld.py) out of the Statement's table words and the real class files: 20 classes; the members and pool entries that the words name. The judged class is class 1, her method 2. -/
namespace start1
open Jvm.ClassFile
def u (s : String) : CpInfo := .utf8 (stringToUtf16 s)
/-- a pool by its gaps: so many unusable entries, then the entry; so many at the end -/
def gap : Nat → List CpInfo → List CpInfo
  | 0, r => r
  | n + 1, r => .unusable :: gap n r
def poolList (es : List (Nat × CpInfo)) (last : Nat) : List CpInfo := es.foldr (fun e r => gap e.1 (e.2 :: r)) (gap last [])
def pool (es : List (Nat × CpInfo)) (last : Nat) : Array CpInfo := ⟨poolList es last⟩
def fileOf (pool : Array CpInfo) (this : Nat) (attrs : Array Attribute := #[]) (ms : Array MethodInfo := #[]) (fl : Nat := 33) (sup : Nat := 0) (ifs : Array Nat := #[]) (fds : Array FieldInfo := #[]) : ClassFile where
  minorVersion := 0
  majorVersion := 65
  constantPool := pool
  accessFlags := fl
  thisClass := this
  superClass := sup
  interfaces := ifs
  fields := fds
  methods := ms
  attributes := attrs
def plain (name : String) (sup : Option ClassId) : Class where
  name := name
  kind := .ordinary
  loader := none
  accessFlags := 33
  super := sup
  interfaces := #[]
  cf := none
  fields := #[]
  methods := #[]
  instanceTypes := #[]
  staticTypes := #[]
  resolved := #[]
  callSites := []
  init := .initialized
  statics := none
  mirror := none

def pool0 : Array CpInfo := pool [(5, u "<init>"), (0, u "()V"), (1, .class_ 10), (1, u "java/lang/Object")] 113

def k0c0 : Code := { maxStack := 0, maxLocals := 1, code := object_method_1_code, exceptionTable := #[], attributes := #[] }
def k0m0 : Method := { name := "<init>", desc := "()V", sig := { parameters := [], returnType := none }, accessFlags := 1, code := some k0c0 }
/-- java/lang/Object -/
def k0 : Class := { plain "java/lang/Object" none with
  accessFlags := 33
  interfaces := #[]
  cf := some (fileOf pool0 8 #[] #[{ accessFlags := 1, nameIndex := 5, descriptorIndex := 6, attributes := #[] }] 33 0 #[] #[])
  fields := #[]
  methods := #[k0m0]
  instanceTypes := #[]
  staticTypes := #[]
  resolved := Array.replicate 124 none
  statics := none }

def pool1 : Array CpInfo := pool [(2, .class_ 4), (0, .nameAndType 5 6), (0, u "java/lang/Object"), (0, u "<init>"), (0, u "()V"), (0, .class_ 8), (0, u "com/example/pricewright/pricewright/core/LongSumTable"), (0, .methodref 7 3), (0, .methodref 7 11), (0, .nameAndType 12 13), (0, u "add"), (0, u "(JJ)V"), (0, .methodref 7 15), (0, .nameAndType 16 17), (0, u "scaled"), (0, u "(JJ)Lcom/example/pricewright/pricewright/core/LongSumTable;"), (0, .methodref 7 19), (0, .nameAndType 20 21), (0, u "get"), (0, u "(J)J"), (0, .methodref 7 23), (0, .nameAndType 24 25), (0, u "sortedKeys"), (0, u "()[J"), (0, .methodref 27 28), (0, .class_ 29), (0, .nameAndType 30 31), (0, u "com/example/pricewright/pricewright/core/LongSumTableScaledPinLaw"), (0, u "in"), (0, u "(JIJJJ)Z"), (3, u "law"), (0, u "(JJJIII)Z")] 4

def k1m0 : Method := { name := "<init>", desc := "()V", sig := { parameters := [], returnType := none }, accessFlags := 1, code := none }
def k1c1 : Code := { maxStack := 4, maxLocals := 9, code := method_2_code, exceptionTable := #[], attributes := #[] }
def k1m1 : Method := { name := "in", desc := "(JIJJJ)Z", sig := { parameters := [.long, .int, .long, .long, .long], returnType := some .boolean }, accessFlags := 10, code := some k1c1 }
def k1c2 : Code := { maxStack := 9, maxLocals := 36, code := code, exceptionTable := #[], attributes := #[] }
def k1m2 : Method := { name := "law", desc := "(JJJIII)Z", sig := { parameters := [.long, .long, .long, .int, .int, .int], returnType := some .boolean }, accessFlags := 9, code := some k1c2 }
/-- com/example/pricewright/pricewright/core/LongSumTableScaledPinLaw -/
def k1 : Class := { plain "com/example/pricewright/pricewright/core/LongSumTableScaledPinLaw" (some 0) with
  accessFlags := 49
  interfaces := #[]
  cf := some (fileOf pool1 27 #[] #[{ accessFlags := 1, nameIndex := 5, descriptorIndex := 6, attributes := #[] }, { accessFlags := 10, nameIndex := 30, descriptorIndex := 31, attributes := #[] }, { accessFlags := 9, nameIndex := 35, descriptorIndex := 36, attributes := #[] }] 49 2 #[] #[])
  fields := #[]
  methods := #[k1m0, k1m1, k1m2]
  instanceTypes := #[]
  staticTypes := #[]
  resolved := Array.replicate 41 none
  statics := none }

def pool2 : Array CpInfo := pool [(1, .class_ 2), (0, u "java/lang/Long"), (0, .class_ 4), (0, u "com/example/pricewright/pricewright/core/LongSumTable"), (0, .methodref 3 6), (0, .nameAndType 7 8), (0, u "<init>"), (0, u "(I)V"), (0, .methodref 10 11), (0, .class_ 12), (0, .nameAndType 7 13), (0, u "java/lang/Object"), (0, u "()V"), (0, .fieldref 3 15), (0, .nameAndType 16 17), (0, u "slots"), (0, u "[J"), (0, .long 9223372036854775808), (1, .methodref 1 21), (0, .nameAndType 22 23), (0, u "numberOfLeadingZeros"), (0, u "(J)I"), (0, .fieldref 3 25), (0, .nameAndType 26 27), (0, u "shift"), (0, u "I"), (0, .methodref 3 29), (0, .nameAndType 30 31), (0, u "held"), (0, u "(J)J"), (0, .methodref 3 33), (0, .nameAndType 34 23), (0, u "index"), (1, .class_ 38), (1, u "java/lang/Math"), (1, u "(JJ)J"), (0, .fieldref 3 42), (0, .nameAndType 43 17), (0, u "sorted"), (0, .fieldref 3 45), (0, .nameAndType 46 27), (0, u "size"), (0, .methodref 3 48), (0, .nameAndType 49 8), (0, u "resize"), (0, .methodref 51 52), (0, .class_ 53), (0, .nameAndType 54 55), (0, u "java/util/Arrays"), (0, u "sort"), (0, u "([J)V"), (0, .methodref 36 57), (0, .nameAndType 58 40), (0, u "multiplyExact"), (0, .methodref 3 60), (0, .nameAndType 61 62), (0, u "put"), (0, u "(JJ)V"), (7, .long 11400714819323198485), (1, u "FREE"), (0, u "J"), (1, u "INITIAL_CAPACITY"), (4, u "add"), (0, u "get"), (0, u "sortedKeys"), (0, u "()[J"), (0, u "scaled"), (0, u "(JJ)Lcom/example/pricewright/pricewright/core/LongSumTable;")] 2

def k2c0 : Code := { maxStack := 2, maxLocals := 1, code := prog_19_method_1_code, exceptionTable := #[], attributes := #[] }
def k2m0 : Method := { name := "<init>", desc := "()V", sig := { parameters := [], returnType := none }, accessFlags := 0, code := some k2c0 }
def k2c1 : Code := { maxStack := 4, maxLocals := 3, code := prog_19_method_2_code, exceptionTable := #[], attributes := #[] }
def k2m1 : Method := { name := "<init>", desc := "(I)V", sig := { parameters := [.int], returnType := none }, accessFlags := 2, code := some k2c1 }
def k2c2 : Code := { maxStack := 6, maxLocals := 6, code := prog_19_method_3_code, exceptionTable := #[], attributes := #[] }
def k2m2 : Method := { name := "add", desc := "(JJ)V", sig := { parameters := [.long, .long], returnType := none }, accessFlags := 0, code := some k2c2 }
def k2c3 : Code := { maxStack := 4, maxLocals := 4, code := prog_19_method_4_code, exceptionTable := #[], attributes := #[] }
def k2m3 : Method := { name := "get", desc := "(J)J", sig := { parameters := [.long], returnType := some .long }, accessFlags := 0, code := some k2c3 }
def k2c4 : Code := { maxStack := 4, maxLocals := 3, code := prog_19_method_5_code, exceptionTable := #[], attributes := #[] }
def k2m4 : Method := { name := "sortedKeys", desc := "()[J", sig := { parameters := [], returnType := some (.array .long) }, accessFlags := 0, code := some k2c4 }
def k2c5 : Code := { maxStack := 7, maxLocals := 9, code := prog_19_method_6_code, exceptionTable := #[], attributes := #[] }
def k2m5 : Method := { name := "scaled", desc := "(JJ)Lcom/example/pricewright/pricewright/core/LongSumTable;", sig := { parameters := [.long, .long], returnType := some (.object "com/example/pricewright/pricewright/core/LongSumTable") }, accessFlags := 0, code := some k2c5 }
def k2c6 : Code := { maxStack := 4, maxLocals := 2, code := prog_19_method_7_code, exceptionTable := #[], attributes := #[] }
def k2m6 : Method := { name := "held", desc := "(J)J", sig := { parameters := [.long], returnType := some .long }, accessFlags := 10, code := some k2c6 }
def k2c7 : Code := { maxStack := 4, maxLocals := 5, code := prog_19_method_8_code, exceptionTable := #[], attributes := #[] }
def k2m7 : Method := { name := "index", desc := "(J)I", sig := { parameters := [.long], returnType := some .int }, accessFlags := 2, code := some k2c7 }
def k2c8 : Code := { maxStack := 6, maxLocals := 4, code := prog_19_method_9_code, exceptionTable := #[], attributes := #[] }
def k2m8 : Method := { name := "resize", desc := "(I)V", sig := { parameters := [.int], returnType := none }, accessFlags := 2, code := some k2c8 }
def k2c9 : Code := { maxStack := 4, maxLocals := 6, code := prog_19_method_10_code, exceptionTable := #[], attributes := #[] }
def k2m9 : Method := { name := "put", desc := "(JJ)V", sig := { parameters := [.long, .long], returnType := none }, accessFlags := 2, code := some k2c9 }
/-- com/example/pricewright/pricewright/core/LongSumTable -/
def k2 : Class := { plain "com/example/pricewright/pricewright/core/LongSumTable" (some 0) with
  accessFlags := 48
  interfaces := #[]
  cf := some (fileOf pool2 3 #[] #[{ accessFlags := 0, nameIndex := 7, descriptorIndex := 13, attributes := #[] }, { accessFlags := 2, nameIndex := 7, descriptorIndex := 8, attributes := #[] }, { accessFlags := 0, nameIndex := 80, descriptorIndex := 62, attributes := #[] }, { accessFlags := 0, nameIndex := 81, descriptorIndex := 31, attributes := #[] }, { accessFlags := 0, nameIndex := 82, descriptorIndex := 83, attributes := #[] }, { accessFlags := 0, nameIndex := 84, descriptorIndex := 85, attributes := #[] }, { accessFlags := 10, nameIndex := 30, descriptorIndex := 31, attributes := #[] }, { accessFlags := 2, nameIndex := 34, descriptorIndex := 23, attributes := #[] }, { accessFlags := 2, nameIndex := 49, descriptorIndex := 8, attributes := #[] }, { accessFlags := 2, nameIndex := 61, descriptorIndex := 62, attributes := #[] }] 48 10 #[] #[{ accessFlags := 24, nameIndex := 72, descriptorIndex := 73, attributes := #[] }, { accessFlags := 26, nameIndex := 75, descriptorIndex := 27, attributes := #[] }, { accessFlags := 2, nameIndex := 16, descriptorIndex := 17, attributes := #[] }, { accessFlags := 2, nameIndex := 26, descriptorIndex := 27, attributes := #[] }, { accessFlags := 2, nameIndex := 46, descriptorIndex := 27, attributes := #[] }, { accessFlags := 2, nameIndex := 43, descriptorIndex := 17, attributes := #[] }])
  fields := #[{ name := "FREE", type := .long, accessFlags := 24, slot := 0, constantValue := 0 }, { name := "INITIAL_CAPACITY", type := .int, accessFlags := 26, slot := 1, constantValue := 0 }, { name := "slots", type := (.array .long), accessFlags := 2, slot := 0, constantValue := 0 }, { name := "shift", type := .int, accessFlags := 2, slot := 1, constantValue := 0 }, { name := "size", type := .int, accessFlags := 2, slot := 2, constantValue := 0 }, { name := "sorted", type := (.array .long), accessFlags := 2, slot := 3, constantValue := 0 }]
  methods := #[k2m0, k2m1, k2m2, k2m3, k2m4, k2m5, k2m6, k2m7, k2m8, k2m9]
  instanceTypes := #[(.array .long), .int, .int, (.array .long)]
  staticTypes := #[.long, .int]
  resolved := Array.replicate 88 none
  statics := none }

def pool3 : Array CpInfo := pool [(1, .class_ 2), (0, u "java/io/Serializable"), (0, .class_ 4), (0, u "java/lang/Object")] 2

/-- java/io/Serializable -/
def k3 : Class := { plain "java/io/Serializable" (some 0) with
  accessFlags := 1537
  interfaces := #[]
  cf := some (fileOf pool3 1 #[] #[] 1537 3 #[] #[])
  fields := #[]
  methods := #[]
  instanceTypes := #[]
  staticTypes := #[]
  resolved := Array.replicate 7 none
  statics := none }

def pool4 : Array CpInfo := pool [(2, .class_ 4), (1, u "java/lang/Object"), (0, u "<init>"), (0, u "()V"), (1, .class_ 10), (1, u "java/lang/Number"), (2, .class_ 14), (0, u "java/io/Serializable"), (0, u "serialVersionUID"), (0, u "J")] 20

def k4m0 : Method := { name := "<init>", desc := "()V", sig := { parameters := [], returnType := none }, accessFlags := 1, code := none }
/-- java/lang/Number -/
def k4 : Class := { plain "java/lang/Number" (some 0) with
  accessFlags := 1057
  interfaces := #[3]
  cf := some (fileOf pool4 8 #[] #[{ accessFlags := 1, nameIndex := 5, descriptorIndex := 6, attributes := #[] }] 1057 2 #[13] #[{ accessFlags := 26, nameIndex := 15, descriptorIndex := 16, attributes := #[] }])
  fields := #[{ name := "serialVersionUID", type := .long, accessFlags := 26, slot := 0, constantValue := 0 }]
  methods := #[k4m0]
  instanceTypes := #[]
  staticTypes := #[.long]
  resolved := Array.replicate 37 none
  statics := none }

def pool5 : Array CpInfo := pool [(1, .class_ 2), (0, u "java/lang/Comparable"), (0, .class_ 4), (0, u "java/lang/Object")] 7

/-- java/lang/Comparable -/
def k5 : Class := { plain "java/lang/Comparable" (some 0) with
  accessFlags := 1537
  interfaces := #[]
  cf := some (fileOf pool5 1 #[] #[] 1537 3 #[] #[])
  fields := #[]
  methods := #[]
  instanceTypes := #[]
  staticTypes := #[]
  resolved := Array.replicate 12 none
  statics := none }

def pool6 : Array CpInfo := pool [(1, .class_ 2), (0, u "java/lang/constant/Constable"), (0, .class_ 4), (0, u "java/lang/Object")] 6

/-- java/lang/constant/Constable -/
def k6 : Class := { plain "java/lang/constant/Constable" (some 0) with
  accessFlags := 1537
  interfaces := #[]
  cf := some (fileOf pool6 1 #[] #[] 1537 3 #[] #[])
  fields := #[]
  methods := #[]
  instanceTypes := #[]
  staticTypes := #[]
  resolved := Array.replicate 11 none
  statics := none }

def pool7 : Array CpInfo := pool [(1, .class_ 2), (0, u "java/lang/constant/ConstantDesc"), (0, .class_ 4), (0, u "java/lang/Object")] 32

/-- java/lang/constant/ConstantDesc -/
def k7 : Class := { plain "java/lang/constant/ConstantDesc" (some 0) with
  accessFlags := 1537
  interfaces := #[]
  cf := some (fileOf pool7 1 #[] #[] 1537 3 #[] #[])
  fields := #[]
  methods := #[]
  instanceTypes := #[]
  staticTypes := #[]
  resolved := Array.replicate 37 none
  statics := none }

def pool8 : Array CpInfo := pool [(1, .class_ 2), (0, u "java/lang/Long"), (15, .class_ 20), (1, u "java/lang/Integer"), (79, u "numberOfLeadingZeros"), (0, u "(J)I"), (133, .class_ 237), (1, u "java/lang/Long$LongCache"), (33, .class_ 272), (0, u "java/lang/Number"), (2, u "value"), (0, u "J"), (31, .methodref 18 309), (0, .nameAndType 100 310), (0, u "(I)I"), (50, u "TYPE"), (0, u "Ljava/lang/Class;"), (0, .class_ 364), (0, u "java/lang/Comparable"), (0, .class_ 366), (0, u "java/lang/constant/Constable"), (0, .class_ 368), (0, u "java/lang/constant/ConstantDesc"), (0, u "MIN_VALUE"), (1, u "MAX_VALUE"), (4, u "SIZE"), (0, u "I"), (1, u "BYTES"), (1, u "serialVersionUID")] 142

def k8c0 : Code := { maxStack := 3, maxLocals := 3, code := jdk_35_method_48_code, exceptionTable := #[], attributes := #[] }
def k8m0 : Method := { name := "numberOfLeadingZeros", desc := "(J)I", sig := { parameters := [.long], returnType := some .int }, accessFlags := 9, code := some k8c0 }
/-- java/lang/Long -/
def k8 : Class := { plain "java/lang/Long" (some 4) with
  accessFlags := 49
  interfaces := #[5, 6, 7]
  cf := some (fileOf pool8 1 #[.nestMembers #[235]] #[{ accessFlags := 9, nameIndex := 100, descriptorIndex := 101, attributes := #[] }] 49 271 #[363, 365, 367] #[{ accessFlags := 25, nameIndex := 369, descriptorIndex := 276, attributes := #[] }, { accessFlags := 25, nameIndex := 371, descriptorIndex := 276, attributes := #[] }, { accessFlags := 25, nameIndex := 361, descriptorIndex := 362, attributes := #[] }, { accessFlags := 18, nameIndex := 275, descriptorIndex := 276, attributes := #[] }, { accessFlags := 25, nameIndex := 376, descriptorIndex := 377, attributes := #[] }, { accessFlags := 25, nameIndex := 379, descriptorIndex := 377, attributes := #[] }, { accessFlags := 26, nameIndex := 381, descriptorIndex := 276, attributes := #[] }])
  fields := #[{ name := "MIN_VALUE", type := .long, accessFlags := 25, slot := 0, constantValue := 0 }, { name := "MAX_VALUE", type := .long, accessFlags := 25, slot := 1, constantValue := 0 }, { name := "TYPE", type := (.object "java/lang/Class"), accessFlags := 25, slot := 2, constantValue := 0 }, { name := "value", type := .long, accessFlags := 18, slot := 0, constantValue := 0 }, { name := "SIZE", type := .int, accessFlags := 25, slot := 3, constantValue := 0 }, { name := "BYTES", type := .int, accessFlags := 25, slot := 4, constantValue := 0 }, { name := "serialVersionUID", type := .long, accessFlags := 26, slot := 5, constantValue := 0 }]
  methods := #[k8m0]
  instanceTypes := #[.long]
  staticTypes := #[.long, .long, (.object "java/lang/Class"), .int, .int, .long]
  resolved := Array.replicate 524 none
  statics := none }

def pool9 : Array CpInfo := pool [(1, .class_ 2), (0, u "java/lang/Integer"), (16, u "digits"), (0, u "[C"), (32, u "numberOfLeadingZeros"), (0, u "(I)I"), (30, u "DigitOnes"), (0, u "[B"), (2, u "DigitTens"), (99, .class_ 190), (0, u "java/lang/Integer$IntegerCache"), (3, u "I"), (8, .class_ 204), (0, u "java/lang/Number"), (2, u "value"), (56, .integer 65536), (37, u "TYPE"), (0, u "Ljava/lang/Class;"), (0, .class_ 305), (0, u "java/lang/Comparable"), (0, .class_ 307), (0, u "java/lang/constant/Constable"), (0, .class_ 309), (0, u "java/lang/constant/ConstantDesc"), (0, u "MIN_VALUE"), (1, u "MAX_VALUE"), (3, u "SIZE"), (1, u "BYTES"), (1, u "serialVersionUID"), (0, u "J")] 131

def k9c0 : Code := { maxStack := 3, maxLocals := 2, code := jdk_33_method_47_code, exceptionTable := #[], attributes := #[] }
def k9m0 : Method := { name := "numberOfLeadingZeros", desc := "(I)I", sig := { parameters := [.int], returnType := some .int }, accessFlags := 9, code := some k9c0 }
/-- java/lang/Integer -/
def k9 : Class := { plain "java/lang/Integer" (some 4) with
  accessFlags := 49
  interfaces := #[5, 6, 7]
  cf := some (fileOf pool9 1 #[.nestMembers #[189]] #[{ accessFlags := 9, nameIndex := 53, descriptorIndex := 54, attributes := #[] }] 49 203 #[304, 306, 308] #[{ accessFlags := 25, nameIndex := 310, descriptorIndex := 194, attributes := #[] }, { accessFlags := 25, nameIndex := 312, descriptorIndex := 194, attributes := #[] }, { accessFlags := 25, nameIndex := 302, descriptorIndex := 303, attributes := #[] }, { accessFlags := 24, nameIndex := 19, descriptorIndex := 20, attributes := #[] }, { accessFlags := 24, nameIndex := 89, descriptorIndex := 86, attributes := #[] }, { accessFlags := 24, nameIndex := 85, descriptorIndex := 86, attributes := #[] }, { accessFlags := 18, nameIndex := 207, descriptorIndex := 194, attributes := #[] }, { accessFlags := 25, nameIndex := 316, descriptorIndex := 194, attributes := #[] }, { accessFlags := 25, nameIndex := 318, descriptorIndex := 194, attributes := #[] }, { accessFlags := 26, nameIndex := 320, descriptorIndex := 321, attributes := #[] }])
  fields := #[{ name := "MIN_VALUE", type := .int, accessFlags := 25, slot := 0, constantValue := 0 }, { name := "MAX_VALUE", type := .int, accessFlags := 25, slot := 1, constantValue := 0 }, { name := "TYPE", type := (.object "java/lang/Class"), accessFlags := 25, slot := 2, constantValue := 0 }, { name := "digits", type := (.array .char), accessFlags := 24, slot := 3, constantValue := 0 }, { name := "DigitTens", type := (.array .byte), accessFlags := 24, slot := 4, constantValue := 0 }, { name := "DigitOnes", type := (.array .byte), accessFlags := 24, slot := 5, constantValue := 0 }, { name := "value", type := .int, accessFlags := 18, slot := 0, constantValue := 0 }, { name := "SIZE", type := .int, accessFlags := 25, slot := 6, constantValue := 0 }, { name := "BYTES", type := .int, accessFlags := 25, slot := 7, constantValue := 0 }, { name := "serialVersionUID", type := .long, accessFlags := 26, slot := 8, constantValue := 0 }]
  methods := #[k9m0]
  instanceTypes := #[.int]
  staticTypes := #[.int, .int, (.object "java/lang/Class"), (.array .char), (.array .byte), (.array .byte), .int, .int, .long]
  resolved := Array.replicate 453 none
  statics := none }

def pool10 : Array CpInfo := pool [(1, .class_ 2), (0, u "java/lang/Math"), (1, .class_ 6), (1, u "java/lang/Object"), (0, u "<init>"), (0, u "()V"), (89, .class_ 100), (1, u "java/lang/Math$RandomNumberGeneratorHolder"), (19, u "multiplyExact"), (0, u "(JJ)J"), (0, .methodref 1 123), (0, .nameAndType 124 125), (0, u "abs"), (0, u "(J)J"), (2, .long 9223372036854775808), (43, u "negativeZeroFloatBits"), (0, u "J"), (2, u "negativeZeroDoubleBits"), (68, u "$assertionsDisabled"), (0, u "Z"), (91, u "twoToTheDoubleScaleDown"), (0, u "D"), (4, u "twoToTheDoubleScaleUp"), (9, u "E"), (3, u "PI"), (2, u "TAU"), (2, u "DEGREES_TO_RADIANS"), (0, u "RADIANS_TO_DEGREES")] 94

def k10m0 : Method := { name := "<init>", desc := "()V", sig := { parameters := [], returnType := none }, accessFlags := 2, code := none }
def k10c1 : Code := { maxStack := 4, maxLocals := 10, code := jdk_29_method_30_code, exceptionTable := #[], attributes := #[] }
def k10m1 : Method := { name := "multiplyExact", desc := "(JJ)J", sig := { parameters := [.long, .long], returnType := some .long }, accessFlags := 9, code := some k10c1 }
def k10c2 : Code := { maxStack := 4, maxLocals := 2, code := jdk_29_method_61_code, exceptionTable := #[], attributes := #[] }
def k10m2 : Method := { name := "abs", desc := "(J)J", sig := { parameters := [.long], returnType := some .long }, accessFlags := 9, code := some k10c2 }
/-- java/lang/Math -/
def k10 : Class := { plain "java/lang/Math" (some 0) with
  accessFlags := 49
  interfaces := #[]
  cf := some (fileOf pool10 1 #[.nestMembers #[98]] #[{ accessFlags := 2, nameIndex := 7, descriptorIndex := 8, attributes := #[] }, { accessFlags := 9, nameIndex := 120, descriptorIndex := 121, attributes := #[] }, { accessFlags := 9, nameIndex := 124, descriptorIndex := 125, attributes := #[] }] 49 4 #[] #[{ accessFlags := 25, nameIndex := 354, descriptorIndex := 339, attributes := #[] }, { accessFlags := 25, nameIndex := 358, descriptorIndex := 339, attributes := #[] }, { accessFlags := 25, nameIndex := 361, descriptorIndex := 339, attributes := #[] }, { accessFlags := 26, nameIndex := 364, descriptorIndex := 339, attributes := #[] }, { accessFlags := 26, nameIndex := 365, descriptorIndex := 339, attributes := #[] }, { accessFlags := 26, nameIndex := 172, descriptorIndex := 173, attributes := #[] }, { accessFlags := 26, nameIndex := 176, descriptorIndex := 173, attributes := #[] }, { accessFlags := 8, nameIndex := 344, descriptorIndex := 339, attributes := #[] }, { accessFlags := 8, nameIndex := 338, descriptorIndex := 339, attributes := #[] }, { accessFlags := 4120, nameIndex := 245, descriptorIndex := 246, attributes := #[] }])
  fields := #[{ name := "E", type := .double, accessFlags := 25, slot := 0, constantValue := 0 }, { name := "PI", type := .double, accessFlags := 25, slot := 1, constantValue := 0 }, { name := "TAU", type := .double, accessFlags := 25, slot := 2, constantValue := 0 }, { name := "DEGREES_TO_RADIANS", type := .double, accessFlags := 26, slot := 3, constantValue := 0 }, { name := "RADIANS_TO_DEGREES", type := .double, accessFlags := 26, slot := 4, constantValue := 0 }, { name := "negativeZeroFloatBits", type := .long, accessFlags := 26, slot := 5, constantValue := 0 }, { name := "negativeZeroDoubleBits", type := .long, accessFlags := 26, slot := 6, constantValue := 0 }, { name := "twoToTheDoubleScaleUp", type := .double, accessFlags := 8, slot := 7, constantValue := 0 }, { name := "twoToTheDoubleScaleDown", type := .double, accessFlags := 8, slot := 8, constantValue := 0 }, { name := "$assertionsDisabled", type := .boolean, accessFlags := 4120, slot := 9, constantValue := 0 }]
  methods := #[k10m0, k10m1, k10m2]
  instanceTypes := #[]
  staticTypes := #[.double, .double, .double, .double, .double, .long, .long, .double, .double, .boolean]
  resolved := Array.replicate 460 none
  statics := none }

def pool11 : Array CpInfo := pool [(2, .class_ 4), (1, u "java/lang/Object"), (0, u "<init>"), (0, u "()V"), (1, .class_ 10), (1, u "java/util/DualPivotQuicksort"), (0, u "sort"), (2, .class_ 16), (1, u "java/util/Arrays"), (2, .methodref 8 20), (0, .nameAndType 11 21), (0, u "([JIII)V"), (52, .class_ 76), (1, u "java/util/Arrays$NaturalOrder"), (36, .class_ 115), (1, u "java/util/Arrays$LegacyMergeSort"), (1, u "Z"), (257, .class_ 376), (0, u "java/util/Arrays$ArrayList"), (68, u "$assertionsDisabled"), (269, u "MIN_ARRAY_SORT_GRAN"), (0, u "I"), (2, u "INSERTIONSORT_THRESHOLD"), (11, u "([J)V"), (243, .class_ 976), (0, u "java/util/Arrays$ArrayItr")] 52

def k11m0 : Method := { name := "<init>", desc := "()V", sig := { parameters := [], returnType := none }, accessFlags := 2, code := none }
def k11c1 : Code := { maxStack := 4, maxLocals := 1, code := jdk_65_method_4_code, exceptionTable := #[], attributes := #[] }
def k11m1 : Method := { name := "sort", desc := "([J)V", sig := { parameters := [(.array .long)], returnType := none }, accessFlags := 9, code := some k11c1 }
/-- java/util/Arrays -/
def k11 : Class := { plain "java/util/Arrays" (some 0) with
  accessFlags := 49
  interfaces := #[]
  cf := some (fileOf pool11 14 #[.nestMembers #[975, 375, 113, 74]] #[{ accessFlags := 2, nameIndex := 5, descriptorIndex := 6, attributes := #[] }, { accessFlags := 9, nameIndex := 11, descriptorIndex := 731, attributes := #[] }] 49 2 #[] #[{ accessFlags := 26, nameIndex := 715, descriptorIndex := 716, attributes := #[] }, { accessFlags := 26, nameIndex := 719, descriptorIndex := 716, attributes := #[] }, { accessFlags := 4120, nameIndex := 445, descriptorIndex := 117, attributes := #[] }])
  fields := #[{ name := "MIN_ARRAY_SORT_GRAN", type := .int, accessFlags := 26, slot := 0, constantValue := 0 }, { name := "INSERTIONSORT_THRESHOLD", type := .int, accessFlags := 26, slot := 1, constantValue := 0 }, { name := "$assertionsDisabled", type := .boolean, accessFlags := 4120, slot := 2, constantValue := 0 }]
  methods := #[k11m0, k11m1]
  instanceTypes := #[]
  staticTypes := #[.int, .int, .boolean]
  resolved := Array.replicate 1029 none
  statics := none }

def pool12 : Array CpInfo := pool [(1, .class_ 2), (0, u "java/util/DualPivotQuicksort"), (5, .class_ 10), (1, u "java/lang/Object"), (0, u "<init>"), (0, u "()V"), (4, .class_ 18), (0, u "java/util/DualPivotQuicksort$Sorter"), (9, u "sort"), (7, u "insertionSort"), (31, u "I"), (4, .class_ 74), (0, u "java/util/DualPivotQuicksort$RunMerger"), (10, .class_ 86), (0, u "java/util/DualPivotQuicksort$Merger"), (12, .methodref 1 100), (0, .nameAndType 28 101), (0, u "(Ljava/util/DualPivotQuicksort$Sorter;[JIII)V"), (2, u "([JIII)V"), (0, .methodref 1 106), (0, .nameAndType 36 107), (0, u "([JII)V"), (106, u "MAX_MIXED_INSERTION_SORT_SIZE"), (2, u "MAX_INSERTION_SORT_SIZE"), (1, u "MIN_PARALLEL_SORT_SIZE"), (1, u "MIN_TRY_MERGE_SIZE"), (0, u "MIN_FIRST_RUN_SIZE"), (1, u "MIN_FIRST_RUNS_FACTOR"), (1, u "MAX_RUN_CAPACITY"), (1, u "MIN_RUN_COUNT"), (1, u "MIN_PARALLEL_MERGE_PARTS_SIZE"), (0, u "MIN_BYTE_COUNTING_SORT_SIZE"), (1, u "MIN_SHORT_OR_CHAR_COUNTING_SORT_SIZE"), (1, u "DELTA"), (1, u "MAX_RECURSION_DEPTH"), (1, u "NUM_BYTE_VALUES"), (1, u "MAX_BYTE_INDEX"), (0, u "NUM_CHAR_VALUES"), (0, u "NUM_SHORT_VALUES"), (0, u "MAX_SHORT_INDEX")] 86

def k12m0 : Method := { name := "<init>", desc := "()V", sig := { parameters := [], returnType := none }, accessFlags := 2, code := none }
def k12c1 : Code := { maxStack := 9, maxLocals := 7, code := jdk_2529_method_12_code, exceptionTable := #[], attributes := #[] }
def k12m1 : Method := { name := "sort", desc := "([JIII)V", sig := { parameters := [(.array .long), .int, .int, .int], returnType := none }, accessFlags := 8, code := some k12c1 }
def k12c2 : Code := { maxStack := 6, maxLocals := 25, code := jdk_2529_method_13_code, exceptionTable := #[], attributes := #[] }
def k12m2 : Method := { name := "sort", desc := "(Ljava/util/DualPivotQuicksort$Sorter;[JIII)V", sig := { parameters := [(.object "java/util/DualPivotQuicksort$Sorter"), (.array .long), .int, .int, .int], returnType := none }, accessFlags := 8, code := some k12c2 }
def k12c3 : Code := { maxStack := 5, maxLocals := 7, code := jdk_2529_method_15_code, exceptionTable := #[], attributes := #[] }
def k12m3 : Method := { name := "insertionSort", desc := "([JII)V", sig := { parameters := [(.array .long), .int, .int], returnType := none }, accessFlags := 10, code := some k12c3 }
/-- java/util/DualPivotQuicksort -/
def k12 : Class := { plain "java/util/DualPivotQuicksort" (some 0) with
  accessFlags := 48
  interfaces := #[]
  cf := some (fileOf pool12 1 #[.nestMembers #[73, 85, 17]] #[{ accessFlags := 2, nameIndex := 11, descriptorIndex := 12, attributes := #[] }, { accessFlags := 8, nameIndex := 28, descriptorIndex := 104, attributes := #[] }, { accessFlags := 8, nameIndex := 28, descriptorIndex := 101, attributes := #[] }, { accessFlags := 10, nameIndex := 36, descriptorIndex := 107, attributes := #[] }] 48 8 #[] #[{ accessFlags := 26, nameIndex := 214, descriptorIndex := 68, attributes := #[] }, { accessFlags := 26, nameIndex := 217, descriptorIndex := 68, attributes := #[] }, { accessFlags := 26, nameIndex := 219, descriptorIndex := 68, attributes := #[] }, { accessFlags := 26, nameIndex := 221, descriptorIndex := 68, attributes := #[] }, { accessFlags := 26, nameIndex := 222, descriptorIndex := 68, attributes := #[] }, { accessFlags := 26, nameIndex := 224, descriptorIndex := 68, attributes := #[] }, { accessFlags := 26, nameIndex := 226, descriptorIndex := 68, attributes := #[] }, { accessFlags := 26, nameIndex := 228, descriptorIndex := 68, attributes := #[] }, { accessFlags := 26, nameIndex := 230, descriptorIndex := 68, attributes := #[] }, { accessFlags := 26, nameIndex := 231, descriptorIndex := 68, attributes := #[] }, { accessFlags := 26, nameIndex := 233, descriptorIndex := 68, attributes := #[] }, { accessFlags := 26, nameIndex := 235, descriptorIndex := 68, attributes := #[] }, { accessFlags := 26, nameIndex := 237, descriptorIndex := 68, attributes := #[] }, { accessFlags := 26, nameIndex := 239, descriptorIndex := 68, attributes := #[] }, { accessFlags := 26, nameIndex := 241, descriptorIndex := 68, attributes := #[] }, { accessFlags := 26, nameIndex := 242, descriptorIndex := 68, attributes := #[] }, { accessFlags := 26, nameIndex := 243, descriptorIndex := 68, attributes := #[] }, { accessFlags := 26, nameIndex := 244, descriptorIndex := 68, attributes := #[] }])
  fields := #[{ name := "MAX_MIXED_INSERTION_SORT_SIZE", type := .int, accessFlags := 26, slot := 0, constantValue := 0 }, { name := "MAX_INSERTION_SORT_SIZE", type := .int, accessFlags := 26, slot := 1, constantValue := 0 }, { name := "MIN_PARALLEL_SORT_SIZE", type := .int, accessFlags := 26, slot := 2, constantValue := 0 }, { name := "MIN_TRY_MERGE_SIZE", type := .int, accessFlags := 26, slot := 3, constantValue := 0 }, { name := "MIN_FIRST_RUN_SIZE", type := .int, accessFlags := 26, slot := 4, constantValue := 0 }, { name := "MIN_FIRST_RUNS_FACTOR", type := .int, accessFlags := 26, slot := 5, constantValue := 0 }, { name := "MAX_RUN_CAPACITY", type := .int, accessFlags := 26, slot := 6, constantValue := 0 }, { name := "MIN_RUN_COUNT", type := .int, accessFlags := 26, slot := 7, constantValue := 0 }, { name := "MIN_PARALLEL_MERGE_PARTS_SIZE", type := .int, accessFlags := 26, slot := 8, constantValue := 0 }, { name := "MIN_BYTE_COUNTING_SORT_SIZE", type := .int, accessFlags := 26, slot := 9, constantValue := 0 }, { name := "MIN_SHORT_OR_CHAR_COUNTING_SORT_SIZE", type := .int, accessFlags := 26, slot := 10, constantValue := 0 }, { name := "DELTA", type := .int, accessFlags := 26, slot := 11, constantValue := 0 }, { name := "MAX_RECURSION_DEPTH", type := .int, accessFlags := 26, slot := 12, constantValue := 0 }, { name := "NUM_BYTE_VALUES", type := .int, accessFlags := 26, slot := 13, constantValue := 0 }, { name := "MAX_BYTE_INDEX", type := .int, accessFlags := 26, slot := 14, constantValue := 0 }, { name := "NUM_CHAR_VALUES", type := .int, accessFlags := 26, slot := 15, constantValue := 0 }, { name := "NUM_SHORT_VALUES", type := .int, accessFlags := 26, slot := 16, constantValue := 0 }, { name := "MAX_SHORT_INDEX", type := .int, accessFlags := 26, slot := 17, constantValue := 0 }]
  methods := #[k12m0, k12m1, k12m2, k12m3]
  instanceTypes := #[]
  staticTypes := #[.int, .int, .int, .int, .int, .int, .int, .int, .int, .int, .int, .int, .int, .int, .int, .int, .int, .int]
  resolved := Array.replicate 331 none
  statics := none }

def pool13 : Array CpInfo := pool [(1, u "java/lang/Cloneable"), (0, .class_ 1), (0, u "java/lang/Object"), (0, .class_ 3)] 3

/-- java/lang/Cloneable -/
def k13 : Class := { plain "java/lang/Cloneable" (some 0) with
  accessFlags := 1537
  interfaces := #[]
  cf := some (fileOf pool13 2 #[] #[] 1537 4 #[] #[])
  fields := #[]
  methods := #[]
  instanceTypes := #[]
  staticTypes := #[]
  resolved := Array.replicate 8 none
  statics := none }

/-- the primitive byte -/
def k14 : Class := { plain "byte" none with kind := .primitive 'B', accessFlags := 0x411 }
/-- [B -/
def k15 : Class := { plain "[B" (some 0) with kind := .array 14 .byte, interfaces := #[13, 3], accessFlags := 1041 }

/-- the primitive int -/
def k16 : Class := { plain "int" none with kind := .primitive 'I', accessFlags := 0x411 }
/-- [I -/
def k17 : Class := { plain "[I" (some 0) with kind := .array 16 .int, interfaces := #[13, 3], accessFlags := 1041 }

/-- the primitive long -/
def k18 : Class := { plain "long" none with kind := .primitive 'J', accessFlags := 0x411 }
/-- [J -/
def k19 : Class := { plain "[J" (some 0) with kind := .array 18 .long, interfaces := #[13, 3], accessFlags := 1041 }

def heap : Heap := #[]
def classes : Array Class := #[k0, k1, k2, k3, k4, k5, k6, k7, k8, k9, k10, k11, k12, k13, k14, k15, k16, k17, k18, k19]
def interned : List (Array UInt16 × Addr) := []
def slotsUsed : Nat := 0
def theMethod : MethodId := ⟨1, 2⟩
def args0 : Array Value := #[.long 5, .long 6, .long 7, .int 8, .int 9, .int 3]
def aboutOver (below : List Frame) : State where
  vm := { classes := classes, interned := interned.toArray }
  heap := heap
  slotsUsed := slotsUsed
  threads := #[{ frames := .invoking theMethod args0 :: below }]
def below0 : List Frame := [.native { method := ⟨0, 0⟩, args := #[] }]
def about1 : State := aboutOver below0
def p0 : Program := .bare "" "" ""
def e0 : Env := launch0.env 0 0 0
theorem w_frames : about1.frames = Frame.invoking theMethod args0 :: below0 := rfl
set_option maxRecDepth 65536 in
theorem w_args : argsFit about1.vm theMethod args0 = true := by decide +kernel
set_option maxRecDepth 65536 in
theorem w_heap : heapFits about1 = true := by decide +kernel
set_option maxRecDepth 65536 in
theorem w_runnable : about1.curStatus? = some .runnable := by decide +kernel
set_option maxRecDepth 65536 in
theorem w_alone : about1.alone = true := by decide +kernel
set_option maxRecDepth 65536 in
theorem w_named : about1.methodNamed? x = some theMethod := by decide +kernel
set_option maxRecDepth 65536 in
theorem w_hears : about1.hears theMethod below0 = true := by decide +kernel
set_option maxRecDepth 65536 in
theorem w_ripe : about1.ripe theMethod args0 below0 = true := by decide +kernel
theorem w_running : about1.status = .running := rfl
set_option maxRecDepth 65536 in
theorem w_room : about1.hasRoom e0.platform room_1 = true :=
  launch0.hasRoom_least _ room_1 (by decide +kernel) (by decide +kernel) (by decide +kernel) (by decide +kernel) (by decide +kernel) (by decide +kernel)
theorem allAtoms_all (ts : List Jvm.Cond) (a : Array Jvm.Value) (st : Jvm.State) : (allAtoms ts).before a st = ts.all (fun c => c.before a st) := by
  induction ts with
  | nil => rfl
  | cons c t ih =>
    show (Jvm.Cond.and c (allAtoms t)).before a st = _
    rw [Jvm.Cond.before_and, ih, List.all_cons]
def words1 : List Jvm.Cond := Jvm.Cond.code x code maxLocals ret :: tables_1
/-- a 'code' word, met by the world's own term for the bytes: nothing is compared byte by byte -/
theorem code_word {y : MethodName} {bytes : ByteArray} {mx : Nat} {rt : Option FieldType} {a : Array Value} {s : State} {m : MethodId} {meth : Method} {c : Code} (h1 : s.methodNamed? y = some m) (h2 : s.vm.method? m = some meth) (h3 : meth.code = some c) (h4 : c.code = bytes)
    (h5 : (c.maxLocals == mx && c.exceptionTable.isEmpty && decide (c.maxStack ≤ mostOperands) && decide (meth.sig.returnType = rt) && !meth.locks && decide (parseMethodDescriptor y.desc = some meth.sig)) = true) : (Jvm.Cond.code y bytes mx rt).before a s = true := by
  simp only [Bool.and_eq_true, beq_iff_eq, Bool.not_eq_true', decide_eq_true_eq] at h5
  obtain ⟨⟨⟨⟨⟨g1, g2⟩, g3⟩, g4⟩, g5⟩, g6⟩ := h5
  simp [Cond.before, Cond.holds, Cond.value, h1, h2, h3, h4, g1, g2, g3, g4, g5, g6]
def isCode : Jvm.Cond → Bool
  | .code _ _ _ _ => true
  | _ => false
theorem all_split {L : List Jvm.Cond} {P : Jvm.Cond → Bool} (h1 : L.all (fun c => isCode c || P c) = true) (h2 : ∀ c ∈ L.filter isCode, P c = true) : L.all P = true := by
  refine List.all_eq_true.mpr fun c hc => ?_
  have h := List.all_eq_true.mp h1 c hc
  rcases Bool.eq_false_or_eq_true (isCode c) with hi | hi
  · exact h2 c (List.mem_filter.mpr ⟨hc, hi⟩)
  · simpa [hi] using h
set_option maxRecDepth 65536 in
theorem w_c0 : (Jvm.Cond.code x code maxLocals ret).before args0 about1 = true := code_word (m := ⟨1, 2⟩) (meth := k1m2) (c := k1c2) (by decide +kernel) rfl rfl rfl (by decide +kernel)
set_option maxRecDepth 65536 in
theorem w_c1 : (Jvm.Cond.code ({ cls := "com/example/pricewright/pricewright/core/LongSumTable", name := "<init>", desc := "()V" } : Jvm.MethodName) prog_19_method_1_code (1 : Nat) (Option.none : Option Jvm.ClassFile.FieldType)).before args0 about1 = true := code_word (m := ⟨2, 0⟩) (meth := k2m0) (c := k2c0) (by decide +kernel) rfl rfl rfl (by decide +kernel)
set_option maxRecDepth 65536 in
theorem w_c2 : (Jvm.Cond.code ({ cls := "com/example/pricewright/pricewright/core/LongSumTable", name := "<init>", desc := "(I)V" } : Jvm.MethodName) prog_19_method_2_code (3 : Nat) (Option.none : Option Jvm.ClassFile.FieldType)).before args0 about1 = true := code_word (m := ⟨2, 1⟩) (meth := k2m1) (c := k2c1) (by decide +kernel) rfl rfl rfl (by decide +kernel)
set_option maxRecDepth 65536 in
theorem w_c3 : (Jvm.Cond.code ({ cls := "java/lang/Object", name := "<init>", desc := "()V" } : Jvm.MethodName) object_method_1_code (1 : Nat) (Option.none : Option Jvm.ClassFile.FieldType)).before args0 about1 = true := code_word (m := ⟨0, 0⟩) (meth := k0m0) (c := k0c0) (by decide +kernel) rfl rfl rfl (by decide +kernel)
set_option maxRecDepth 65536 in
theorem w_c4 : (Jvm.Cond.code ({ cls := "java/lang/Long", name := "numberOfLeadingZeros", desc := "(J)I" } : Jvm.MethodName) jdk_35_method_48_code (3 : Nat) (Option.some Jvm.ClassFile.FieldType.int)).before args0 about1 = true := code_word (m := ⟨8, 0⟩) (meth := k8m0) (c := k8c0) (by decide +kernel) rfl rfl rfl (by decide +kernel)
set_option maxRecDepth 65536 in
theorem w_c5 : (Jvm.Cond.code ({ cls := "java/lang/Integer", name := "numberOfLeadingZeros", desc := "(I)I" } : Jvm.MethodName) jdk_33_method_47_code (2 : Nat) (Option.some Jvm.ClassFile.FieldType.int)).before args0 about1 = true := code_word (m := ⟨9, 0⟩) (meth := k9m0) (c := k9c0) (by decide +kernel) rfl rfl rfl (by decide +kernel)
set_option maxRecDepth 65536 in
theorem w_c6 : (Jvm.Cond.code ({ cls := "com/example/pricewright/pricewright/core/LongSumTable", name := "add", desc := "(JJ)V" } : Jvm.MethodName) prog_19_method_3_code (6 : Nat) (Option.none : Option Jvm.ClassFile.FieldType)).before args0 about1 = true := code_word (m := ⟨2, 2⟩) (meth := k2m2) (c := k2c2) (by decide +kernel) rfl rfl rfl (by decide +kernel)
set_option maxRecDepth 65536 in
theorem w_c7 : (Jvm.Cond.code ({ cls := "com/example/pricewright/pricewright/core/LongSumTable", name := "held", desc := "(J)J" } : Jvm.MethodName) prog_19_method_7_code (2 : Nat) (Option.some Jvm.ClassFile.FieldType.long)).before args0 about1 = true := code_word (m := ⟨2, 6⟩) (meth := k2m6) (c := k2c6) (by decide +kernel) rfl rfl rfl (by decide +kernel)
set_option maxRecDepth 65536 in
theorem w_c8 : (Jvm.Cond.code ({ cls := "com/example/pricewright/pricewright/core/LongSumTable", name := "index", desc := "(J)I" } : Jvm.MethodName) prog_19_method_8_code (5 : Nat) (Option.some Jvm.ClassFile.FieldType.int)).before args0 about1 = true := code_word (m := ⟨2, 7⟩) (meth := k2m7) (c := k2c7) (by decide +kernel) rfl rfl rfl (by decide +kernel)
set_option maxRecDepth 65536 in
theorem w_c9 : (Jvm.Cond.code ({ cls := "com/example/pricewright/pricewright/core/LongSumTable", name := "scaled", desc := "(JJ)Lcom/example/pricewright/pricewright/core/LongSumTable;" } : Jvm.MethodName) prog_19_method_6_code (9 : Nat) (Option.some (Jvm.ClassFile.FieldType.object "com/example/pricewright/pricewright/core/LongSumTable"))).before args0 about1 = true := code_word (m := ⟨2, 5⟩) (meth := k2m5) (c := k2c5) (by decide +kernel) rfl rfl rfl (by decide +kernel)
set_option maxRecDepth 65536 in
theorem w_c10 : (Jvm.Cond.code ({ cls := "java/lang/Math", name := "multiplyExact", desc := "(JJ)J" } : Jvm.MethodName) jdk_29_method_30_code (10 : Nat) (Option.some Jvm.ClassFile.FieldType.long)).before args0 about1 = true := code_word (m := ⟨10, 1⟩) (meth := k10m1) (c := k10c1) (by decide +kernel) rfl rfl rfl (by decide +kernel)
set_option maxRecDepth 65536 in
theorem w_c11 : (Jvm.Cond.code ({ cls := "java/lang/Math", name := "abs", desc := "(J)J" } : Jvm.MethodName) jdk_29_method_61_code (2 : Nat) (Option.some Jvm.ClassFile.FieldType.long)).before args0 about1 = true := code_word (m := ⟨10, 2⟩) (meth := k10m2) (c := k10c2) (by decide +kernel) rfl rfl rfl (by decide +kernel)
set_option maxRecDepth 65536 in
theorem w_c12 : (Jvm.Cond.code ({ cls := "com/example/pricewright/pricewright/core/LongSumTable", name := "put", desc := "(JJ)V" } : Jvm.MethodName) prog_19_method_10_code (6 : Nat) (Option.none : Option Jvm.ClassFile.FieldType)).before args0 about1 = true := code_word (m := ⟨2, 9⟩) (meth := k2m9) (c := k2c9) (by decide +kernel) rfl rfl rfl (by decide +kernel)
set_option maxRecDepth 65536 in
theorem w_c13 : (Jvm.Cond.code ({ cls := "com/example/pricewright/pricewright/core/LongSumTable", name := "get", desc := "(J)J" } : Jvm.MethodName) prog_19_method_4_code (4 : Nat) (Option.some Jvm.ClassFile.FieldType.long)).before args0 about1 = true := code_word (m := ⟨2, 3⟩) (meth := k2m3) (c := k2c3) (by decide +kernel) rfl rfl rfl (by decide +kernel)
set_option maxRecDepth 65536 in
theorem w_c14 : (Jvm.Cond.code ({ cls := "com/example/pricewright/pricewright/core/LongSumTable", name := "sortedKeys", desc := "()[J" } : Jvm.MethodName) prog_19_method_5_code (3 : Nat) (Option.some (Jvm.ClassFile.FieldType.array Jvm.ClassFile.FieldType.long))).before args0 about1 = true := code_word (m := ⟨2, 4⟩) (meth := k2m4) (c := k2c4) (by decide +kernel) rfl rfl rfl (by decide +kernel)
set_option maxRecDepth 65536 in
theorem w_c15 : (Jvm.Cond.code ({ cls := "java/util/Arrays", name := "sort", desc := "([J)V" } : Jvm.MethodName) jdk_65_method_4_code (1 : Nat) (Option.none : Option Jvm.ClassFile.FieldType)).before args0 about1 = true := code_word (m := ⟨11, 1⟩) (meth := k11m1) (c := k11c1) (by decide +kernel) rfl rfl rfl (by decide +kernel)
set_option maxRecDepth 65536 in
theorem w_c16 : (Jvm.Cond.code ({ cls := "java/util/DualPivotQuicksort", name := "sort", desc := "([JIII)V" } : Jvm.MethodName) jdk_2529_method_12_code (7 : Nat) (Option.none : Option Jvm.ClassFile.FieldType)).before args0 about1 = true := code_word (m := ⟨12, 1⟩) (meth := k12m1) (c := k12c1) (by decide +kernel) rfl rfl rfl (by decide +kernel)
set_option maxRecDepth 65536 in
theorem w_c17 : (Jvm.Cond.code ({ cls := "java/util/DualPivotQuicksort", name := "sort", desc := "(Ljava/util/DualPivotQuicksort$Sorter;[JIII)V" } : Jvm.MethodName) jdk_2529_method_13_code (25 : Nat) (Option.none : Option Jvm.ClassFile.FieldType)).before args0 about1 = true := code_word (m := ⟨12, 2⟩) (meth := k12m2) (c := k12c2) (by decide +kernel) rfl rfl rfl (by decide +kernel)
set_option maxRecDepth 65536 in
theorem w_c18 : (Jvm.Cond.code ({ cls := "java/util/DualPivotQuicksort", name := "insertionSort", desc := "([JII)V" } : Jvm.MethodName) jdk_2529_method_15_code (7 : Nat) (Option.none : Option Jvm.ClassFile.FieldType)).before args0 about1 = true := code_word (m := ⟨12, 3⟩) (meth := k12m3) (c := k12c3) (by decide +kernel) rfl rfl rfl (by decide +kernel)
set_option maxRecDepth 65536 in
theorem w_c19 : (Jvm.Cond.code ({ cls := "com/example/pricewright/pricewright/core/LongSumTableScaledPinLaw", name := "in", desc := "(JIJJJ)Z" } : Jvm.MethodName) method_2_code (9 : Nat) (Option.some Jvm.ClassFile.FieldType.boolean)).before args0 about1 = true := code_word (m := ⟨1, 1⟩) (meth := k1m1) (c := k1c1) (by decide +kernel) rfl rfl rfl (by decide +kernel)
set_option maxRecDepth 65536 in
theorem w_c20 : (Jvm.Cond.code ({ cls := "com/example/pricewright/pricewright/core/LongSumTable", name := "resize", desc := "(I)V" } : Jvm.MethodName) prog_19_method_9_code (4 : Nat) (Option.none : Option Jvm.ClassFile.FieldType)).before args0 about1 = true := code_word (m := ⟨2, 8⟩) (meth := k2m8) (c := k2c8) (by decide +kernel) rfl rfl rfl (by decide +kernel)
def codes1 : List Jvm.Cond := [Jvm.Cond.code x code maxLocals ret, Jvm.Cond.code ({ cls := "com/example/pricewright/pricewright/core/LongSumTable", name := "<init>", desc := "()V" } : Jvm.MethodName) prog_19_method_1_code (1 : Nat) (Option.none : Option Jvm.ClassFile.FieldType), Jvm.Cond.code ({ cls := "com/example/pricewright/pricewright/core/LongSumTable", name := "<init>", desc := "(I)V" } : Jvm.MethodName) prog_19_method_2_code (3 : Nat) (Option.none : Option Jvm.ClassFile.FieldType), Jvm.Cond.code ({ cls := "java/lang/Object", name := "<init>", desc := "()V" } : Jvm.MethodName) object_method_1_code (1 : Nat) (Option.none : Option Jvm.ClassFile.FieldType), Jvm.Cond.code ({ cls := "java/lang/Long", name := "numberOfLeadingZeros", desc := "(J)I" } : Jvm.MethodName) jdk_35_method_48_code (3 : Nat) (Option.some Jvm.ClassFile.FieldType.int), Jvm.Cond.code ({ cls := "java/lang/Integer", name := "numberOfLeadingZeros", desc := "(I)I" } : Jvm.MethodName) jdk_33_method_47_code (2 : Nat) (Option.some Jvm.ClassFile.FieldType.int), Jvm.Cond.code ({ cls := "com/example/pricewright/pricewright/core/LongSumTable", name := "add", desc := "(JJ)V" } : Jvm.MethodName) prog_19_method_3_code (6 : Nat) (Option.none : Option Jvm.ClassFile.FieldType), Jvm.Cond.code ({ cls := "com/example/pricewright/pricewright/core/LongSumTable", name := "held", desc := "(J)J" } : Jvm.MethodName) prog_19_method_7_code (2 : Nat) (Option.some Jvm.ClassFile.FieldType.long), Jvm.Cond.code ({ cls := "com/example/pricewright/pricewright/core/LongSumTable", name := "index", desc := "(J)I" } : Jvm.MethodName) prog_19_method_8_code (5 : Nat) (Option.some Jvm.ClassFile.FieldType.int), Jvm.Cond.code ({ cls := "com/example/pricewright/pricewright/core/LongSumTable", name := "scaled", desc := "(JJ)Lcom/example/pricewright/pricewright/core/LongSumTable;" } : Jvm.MethodName) prog_19_method_6_code (9 : Nat) (Option.some (Jvm.ClassFile.FieldType.object "com/example/pricewright/pricewright/core/LongSumTable")), Jvm.Cond.code ({ cls := "java/lang/Math", name := "multiplyExact", desc := "(JJ)J" } : Jvm.MethodName) jdk_29_method_30_code (10 : Nat) (Option.some Jvm.ClassFile.FieldType.long), Jvm.Cond.code ({ cls := "java/lang/Math", name := "abs", desc := "(J)J" } : Jvm.MethodName) jdk_29_method_61_code (2 : Nat) (Option.some Jvm.ClassFile.FieldType.long), Jvm.Cond.code ({ cls := "com/example/pricewright/pricewright/core/LongSumTable", name := "put", desc := "(JJ)V" } : Jvm.MethodName) prog_19_method_10_code (6 : Nat) (Option.none : Option Jvm.ClassFile.FieldType), Jvm.Cond.code ({ cls := "com/example/pricewright/pricewright/core/LongSumTable", name := "get", desc := "(J)J" } : Jvm.MethodName) prog_19_method_4_code (4 : Nat) (Option.some Jvm.ClassFile.FieldType.long), Jvm.Cond.code ({ cls := "com/example/pricewright/pricewright/core/LongSumTable", name := "sortedKeys", desc := "()[J" } : Jvm.MethodName) prog_19_method_5_code (3 : Nat) (Option.some (Jvm.ClassFile.FieldType.array Jvm.ClassFile.FieldType.long)), Jvm.Cond.code ({ cls := "java/util/Arrays", name := "sort", desc := "([J)V" } : Jvm.MethodName) jdk_65_method_4_code (1 : Nat) (Option.none : Option Jvm.ClassFile.FieldType), Jvm.Cond.code ({ cls := "java/util/DualPivotQuicksort", name := "sort", desc := "([JIII)V" } : Jvm.MethodName) jdk_2529_method_12_code (7 : Nat) (Option.none : Option Jvm.ClassFile.FieldType), Jvm.Cond.code ({ cls := "java/util/DualPivotQuicksort", name := "sort", desc := "(Ljava/util/DualPivotQuicksort$Sorter;[JIII)V" } : Jvm.MethodName) jdk_2529_method_13_code (25 : Nat) (Option.none : Option Jvm.ClassFile.FieldType), Jvm.Cond.code ({ cls := "java/util/DualPivotQuicksort", name := "insertionSort", desc := "([JII)V" } : Jvm.MethodName) jdk_2529_method_15_code (7 : Nat) (Option.none : Option Jvm.ClassFile.FieldType), Jvm.Cond.code ({ cls := "com/example/pricewright/pricewright/core/LongSumTableScaledPinLaw", name := "in", desc := "(JIJJJ)Z" } : Jvm.MethodName) method_2_code (9 : Nat) (Option.some Jvm.ClassFile.FieldType.boolean), Jvm.Cond.code ({ cls := "com/example/pricewright/pricewright/core/LongSumTable", name := "resize", desc := "(I)V" } : Jvm.MethodName) prog_19_method_9_code (4 : Nat) (Option.none : Option Jvm.ClassFile.FieldType)]
set_option maxRecDepth 65536 in
theorem codes_eq : words1.filter isCode = codes1 := rfl
theorem w_codes : ∀ c ∈ words1.filter isCode, c.before args0 about1 = true := by
  rw [codes_eq]
  intro c hc
  simp only [codes1, List.mem_cons, List.not_mem_nil, or_false] at hc
  rcases hc with rfl | rfl | rfl | rfl | rfl | rfl | rfl | rfl | rfl | rfl | rfl | rfl | rfl | rfl | rfl | rfl | rfl | rfl | rfl | rfl | rfl
  · exact w_c0
  · exact w_c1
  · exact w_c2
  · exact w_c3
  · exact w_c4
  · exact w_c5
  · exact w_c6
  · exact w_c7
  · exact w_c8
  · exact w_c9
  · exact w_c10
  · exact w_c11
  · exact w_c12
  · exact w_c13
  · exact w_c14
  · exact w_c15
  · exact w_c16
  · exact w_c17
  · exact w_c18
  · exact w_c19
  · exact w_c20
set_option maxRecDepth 65536 in
theorem w_t1 : (words1.take 24).all (fun c => isCode c || c.before args0 about1) = true := by decide +kernel
set_option maxRecDepth 65536 in
theorem w_t2 : ((words1.drop 24).take 24).all (fun c => isCode c || c.before args0 about1) = true := by decide +kernel
set_option maxRecDepth 65536 in
theorem w_t3 : (((words1.drop 24).drop 24).take 24).all (fun c => isCode c || c.before args0 about1) = true := by decide +kernel
set_option maxRecDepth 65536 in
theorem w_t4 : (((words1.drop 24).drop 24).drop 24).all (fun c => isCode c || c.before args0 about1) = true := by decide +kernel
theorem w_tables : (allAtoms (Jvm.Cond.code x code maxLocals ret :: tables_1)).before args0 about1 = true := by
  rw [allAtoms_all]
  show words1.all (fun c => c.before args0 about1) = true
  refine all_split ?_ w_codes
  rw [← List.take_append_drop 24 words1, List.all_append, w_t1, ← List.take_append_drop 24 (words1.drop 24), List.all_append, w_t2, ← List.take_append_drop 24 ((words1.drop 24).drop 24), List.all_append, w_t3, w_t4]
  rfl
set_option maxRecDepth 65536 in
theorem w_case : (Jvm.Cond.and given_1 narrow_1).before args0 about1 = true := by decide +kernel
theorem w_applies : (headSpec (Jvm.Cond.code x code maxLocals ret :: tables_1) room_1).applies x e0.platform about1 = true :=
  (Spec.applies_iff w_frames).mpr ⟨w_running, w_runnable, w_alone, w_named, w_hears, w_ripe, w_room, w_tables⟩
theorem atStart : AtStart classFile x code maxLocals ret World_1 tables_1 room_1 Calls_1 rest_1 Pre_1 launch0 p0 e0 about1 theMethod args0 below0 :=
  ⟨lists_1, trivial, launch0.admits_env _ _ _, launch0.least_env, fairChoices_fair.cas, fairChoices_fair.clock, w_frames, w_args, w_heap, w_applies, trivial, trivial, w_case⟩
end start1
theorem witness_1 : WitnessClaimed_1 := ⟨start1.p0, start1.e0, start1.about1, start1.theMethod, start1.args0, start1.below0, start1.atStart⟩
end Jvm.Pilot.@@N@@

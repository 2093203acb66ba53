import JvmDerived
import JvmDerived.Pilot.@@N@@Statement
import JvmDerived.Pilot.@@N@@Code
set_option linter.unusedVariables false
set_option linter.unusedSimpArgs false
namespace Jvm.RoadKit
open Sem ClassFile Op Lib Jvm.Stand Jvm.Free Jvm.LawKit
section New
variable {p : Program} {l : Launch} {e : Env} {R : Room} {s : State} {m : MethodId} {args : Array Value} {below : List Frame} {meth : Method} {c : Code} {T : State} {locs : List Loc} {cells slots : Nat}
theorem retI (X : Stand p l e R s m args below meth c T locs cells slots) (hx : p.tables.exec = Jvm.exec) {pc : Nat} {Ls : Array Slot} {z : Int32} {rest : List Value} (hret : meth.sig.returnType = some .int) (hd : decode c.code pc = .ok (.ireturn, 1)) {fs : List Frame}
    (hl : ∀ (f : JFrame) (acts : List Action), f.method = m → f.locked = none → f.entered = [] → (doReturn e (T.setTop f) acts (some (.int z))).1 = T.setFrames fs) : Steps p.tables e below (T.setTop (mkF m pc Ls (.int z :: rest))) (T.setFrames fs) := by
  have hm' : T.vm.method? m = some meth := X.method'
  have hn : narrow .int (.int z) = .int z := rfl
  show Steps p.tables e below (T.setTop { method := m, pc := pc, locals := Ls, stack := _ :: rest, locked := none }) _
  jvm_step X.here [X.here.top, hx, hd, hm', hret, hn]
  first | (intro acts; rw [hl _ acts rfl rfl rfl]) | rw [hl _ _ rfl rfl rfl]
  exact Steps.refl _
end New
end Jvm.RoadKit
namespace Jvm.Pilot.@@N@@
open Jvm Jvm.ClassFile Sem Op Lib Jvm.Free Jvm.Stand Jvm.LawKit Jvm.RoadKit Bundle Jvm.Pilot.@@N@@.Jvm.D
theorem own_eqint {args : Array Value} {first s : State} {o : Option Outcome} {idx : List Nat} {t : Term} {n : Int32} (h : (Jvm.Cond.eq t (.int n)).value args first o s idx = some true) : t.eval args first o idx s = some (.int n) := by
  obtain ⟨x, y, hx, hy, -, k⟩ := cmp_v (Or.inl h)
  obtain rfl : y = .int n := (Option.some.inj ((Term.int_eval n).symm.trans hy)).symm
  obtain ⟨z, rfl⟩ := k
  simp only [Cond.value, hx, hy] at h
  rw [hx, show z = n by simpa using h]
theorem own_stakeep {Z : State} {h h' : Heap} {C n d : String} {v : Value} (K : Keep h h' []) (F : Sta Z h C n d v) : Sta Z h' C n d v := F.ext ⟨K.1, fun a c q => K.2.1 a c q nin0⟩
theorem own_selpriv {s : State} {args : Array Value} {y : MethodName} {n : Nat} (hi : (Jvm.Cond.instantiable y.cls n).before args s = true) (hp : s.PrivateAt y) (hinst : (Jvm.Cond.instanceMethod y).before args s = true) (hy : y.cls ≠ "java/lang/invoke/MethodHandle" ∧ y.cls ≠ "java/lang/invoke/VarHandle") : (Jvm.Cond.selects y.cls y y).before args s = true := by
  obtain ⟨c, k, h1, h2, h3, h4, -⟩ := Cond.instantiable_spec hi
  exact selects_self_of_private h1 h2 (Bool.or_eq_false_iff.mp h4).1 hp hinst hy
theorem own_lceq {a b : Int64} (h : a = b) : lcmpW a b = 0 := by subst h; simp [lcmpW, Int64.lt_irrefl]
theorem own_lcne {a b : Int64} (h : ¬ a = b) : ¬ lcmpW a b = 0 := by
  unfold lcmpW; split
  · decide
  · first | decide | (rw [if_neg h]; decide)
theorem own_lcgt {a b : Int64} (h : b < a) : (0 : Int32) < lcmpW a b := by unfold lcmpW; rw [if_pos h]; decide
theorem own_lcngt {a b : Int64} (h : ¬ b < a) : ¬ (0 : Int32) < lcmpW a b := by unfold lcmpW; rw [if_neg h]; split <;> decide
theorem own_lclt {a b : Int64} (h : a < b) : lcmpW a b < (0 : Int32) := by
  have h1 : ¬ b < a := fun q => by rw [Int64.lt_iff_toInt_lt] at h q; omega
  have h2 : ¬ a = b := fun q => by subst q; rw [Int64.lt_iff_toInt_lt] at h; omega
  unfold lcmpW; rw [if_neg h1, if_neg h2]; decide
theorem own_lcnlt {a b : Int64} (h : ¬ a < b) : ¬ lcmpW a b < (0 : Int32) := by
  unfold lcmpW; split
  · decide
  · split
    · decide
    · rename_i h1 h2; exact absurd (Int64.toInt_inj.mp (by simp only [gt_iff_lt, Int64.lt_iff_toInt_lt] at h h1; omega)) h2
def own_FREE : Int64 := -9223372036854775808
def own_upd (f : Nat → Int64) (i : Nat) (v : Int64) : Nat → Int64 := fun j => if j = i then v else f j
theorem own_updE (f : Nat → Int64) (i : Nat) (v : Int64) : own_upd f i v i = v := if_pos rfl
theorem own_updN {f : Nat → Int64} {i j : Nat} {v : Int64} (h : j ≠ i) : own_upd f i v j = f j := if_neg h
def own_Idx (K : Nat → Int64) (n h : Nat) (k : Int64) (i : Nat) : Prop :=
  ∃ d, i = (h + d) % n ∧ (∀ e, e < d → K ((h + e) % n) ≠ own_FREE ∧ K ((h + e) % n) ≠ k) ∧ (K i = k ∨ K i = own_FREE)
theorem own_idx_uniq {K : Nat → Int64} {n h : Nat} {k : Int64} {i j : Nat} (a : own_Idx K n h k i) (b : own_Idx K n h k j) : i = j := by
  obtain ⟨d, e1, p, q⟩ := a
  obtain ⟨d', e2, p', q'⟩ := b
  rcases Nat.lt_trichotomy d d' with h1 | h1 | h1
  · have r := p' d h1
    rw [← e1] at r
    rcases q with q | q
    · exact absurd q r.2
    · exact absurd q r.1
  · rw [e1, e2, h1]
  · have r := p d' h1
    rw [← e2] at r
    rcases q' with q | q
    · exact absurd q r.2
    · exact absurd q r.1
theorem own_idx_upd {K : Nat → Int64} {n h : Nat} {k k' : Int64} {i j : Nat} (a : own_Idx K n h k j) (hi : K i = own_FREE) (hj : own_upd K i k' j = k ∨ own_upd K i k' j = own_FREE) : own_Idx (own_upd K i k') n h k j := by
  obtain ⟨d, e1, p, -⟩ := a
  refine ⟨d, e1, fun e he => ?_, hj⟩
  have r := p e he
  have : (h + e) % n ≠ i := fun q => r.1 (by rw [q]; exact hi)
  rw [own_updN this]; exact r
def own_cnt (K : Nat → Int64) : Nat → Nat
  | 0 => 0
  | n + 1 => own_cnt K n + (if K n = own_FREE then 0 else 1)
theorem own_cnt_congr {K K' : Nat → Int64} {n : Nat} (h : ∀ i, i < n → K i = K' i) : own_cnt K n = own_cnt K' n := by
  induction n with
  | zero => rfl
  | succ n ih => simp only [own_cnt]; rw [ih fun i hi => h i (by omega), h n (by omega)]
theorem own_cnt_free {K : Nat → Int64} {n : Nat} (h : own_cnt K n < n) : ∃ i, i < n ∧ K i = own_FREE := by
  induction n with
  | zero => omega
  | succ n ih =>
    by_cases q : K n = own_FREE
    · exact ⟨n, by omega, q⟩
    · simp only [own_cnt, if_neg q] at h
      obtain ⟨i, a, b⟩ := ih (by omega)
      exact ⟨i, by omega, b⟩
theorem own_cnt_upd {K : Nat → Int64} {n i : Nat} {k : Int64} (hi : i < n) (hf : K i = own_FREE) (hk : k ≠ own_FREE) : own_cnt (own_upd K i k) n = own_cnt K n + 1 := by
  induction n with
  | zero => omega
  | succ n ih =>
    by_cases q : i = n
    · subst q
      have e : own_cnt (own_upd K i k) i = own_cnt K i := own_cnt_congr fun j hj => own_updN (by omega)
      simp only [own_cnt, e, own_updE, if_neg hk, if_pos hf] <;> omega
    · have e := ih (by omega)
      simp only [own_cnt, e, own_updN (show n ≠ i by omega)] <;> omega
theorem own_cnt_le (K : Nat → Int64) (n : Nat) : own_cnt K n ≤ n := by
  induction n with
  | zero => exact Nat.le_refl 0
  | succ n ih => simp only [own_cnt]; split <;> omega
theorem own_cnt_mono (K : Nat → Int64) {i n : Nat} (h : i ≤ n) : own_cnt K i ≤ own_cnt K n := by
  induction n with
  | zero => rw [Nat.le_zero.mp h]; exact Nat.le_refl _
  | succ n ih =>
    by_cases q : i = n + 1
    · subst q; exact Nat.le_refl _
    · have := ih (by omega); simp only [own_cnt]; omega
/-- the slots' keys K and sums W (n slots) hold the sums m over the keys D -/
def own_Rep (K W : Nat → Int64) (n : Nat) (hs : Int64 → Nat) (D : Int64 → Prop) (m : Int64 → Int64) (sz : Nat) : Prop :=
  (∀ i, i < n → K i ≠ own_FREE → own_Idx K n (hs (K i)) (K i) i ∧ D (K i) ∧ W i = m (K i)) ∧ (∀ k, D k → k ≠ own_FREE ∧ ∃ i, i < n ∧ K i = k) ∧ (∀ k, ¬ D k → m k = 0) ∧ own_cnt K n = sz
theorem own_rep_empty {K W : Nat → Int64} {n : Nat} {hs : Int64 → Nat} (h : ∀ i, i < n → K i = own_FREE) : own_Rep K W n hs (fun _ => False) (fun _ => 0) 0 := by
  refine ⟨fun i hi q => absurd (h i hi) q, fun k q => q.elim, fun _ _ => rfl, ?_⟩
  induction n with
  | zero => rfl
  | succ n ih => simp only [own_cnt, h n (Nat.lt_succ_self n), if_pos, ih fun i hi => h i (by omega)]
section OwnRep
variable {K W : Nat → Int64} {n : Nat} {hs : Int64 → Nat} {D : Int64 → Prop} {m : Int64 → Int64} {sz : Nat} {k : Int64} {i : Nat}
theorem own_rep_inj (R : own_Rep K W n hs D m sz) {j : Nat} (hi : i < n) (hj : j < n) (e : K i = K j) (hk : K i ≠ own_FREE) : i = j := by
  have a := (R.1 i hi hk).1
  have b := (R.1 j hj (e ▸ hk)).1
  rw [← e] at b
  exact own_idx_uniq a b
theorem own_rep_none (R : own_Rep K W n hs D m sz) (I : own_Idx K n (hs k) k i) (hf : K i = own_FREE) : ¬ D k := fun q => by
  obtain ⟨hk, j, hj, e⟩ := R.2.1 k q
  have b := (R.1 j hj (e ▸ hk)).1
  rw [e] at b
  have := own_idx_uniq I b
  subst this
  exact hk (e.symm.trans hf)
theorem own_rep_get (R : own_Rep K W n hs D m sz) (hi : i < n) (hk : k ≠ own_FREE) (I : own_Idx K n (hs k) k i) : (if K i = k then W i else 0) = m k := by
  by_cases q : K i = k
  · rw [if_pos q, (R.1 i hi (q ▸ hk)).2.2, q]
  · rw [if_neg q]
    obtain ⟨-, -, -, h | h⟩ := id I
    · exact absurd h q
    · exact (R.2.2.1 k (own_rep_none R I h)).symm
theorem own_rep_dom (R : own_Rep K W n hs D m sz) (hi : i < n) (hk : k ≠ own_FREE) (q : K i = k) : D k ∧ W i = m k := by
  have := (R.1 i hi (q ▸ hk)).2
  rw [q] at this; exact this
theorem own_rep_found (R : own_Rep K W n hs D m sz) (hi : i < n) (hk : k ≠ own_FREE) (q : K i = k) (v : Int64) : own_Rep K (own_upd W i v) n hs D (fun x => if x = k then v else m x) sz := by
  refine ⟨fun j hj hn => ?_, R.2.1, fun x hx => ?_, R.2.2.2⟩
  · obtain ⟨a, b, c⟩ := R.1 j hj hn
    refine ⟨a, b, ?_⟩
    show own_upd W i v j = (if K j = k then v else m (K j))
    by_cases e : j = i
    · subst e; rw [own_updE, if_pos q]
    · have z1 : ¬ K j = k := fun z => e (own_rep_inj R hj hi (z.trans q.symm) hn)
      rw [own_updN e, if_neg z1]; exact c
  · show (if x = k then v else m x) = 0
    have z1 : ¬ x = k := fun z => hx (by rw [z]; exact (own_rep_dom R hi hk q).1)
    rw [if_neg z1]; exact R.2.2.1 x hx
theorem own_rep_put (R : own_Rep K W n hs D m sz) (hi : i < n) (hk : k ≠ own_FREE) (I : own_Idx K n (hs k) k i) (hf : K i = own_FREE) (v : Int64) : own_Rep (own_upd K i k) (own_upd W i v) n hs (fun x => D x ∨ x = k) (fun x => if x = k then v else m x) (sz + 1) := by
  have hD := own_rep_none R I hf
  refine ⟨fun j hj hn => ?_, fun x hx => ?_, fun x hx => ?_, ?_⟩
  · by_cases e : j = i
    · subst e
      rw [own_updE, own_updE]
      exact ⟨own_idx_upd I hf (Or.inl (own_updE _ _ _)), Or.inr rfl, (if_pos rfl).symm⟩
    · rw [own_updN e] at hn ⊢
      obtain ⟨a, b, c⟩ := R.1 j hj hn
      refine ⟨own_idx_upd a hf (Or.inl (own_updN e)), Or.inl b, ?_⟩
      have z1 : ¬ K j = k := fun z => hD (by rw [← z]; exact b)
      show own_upd W i v j = (if K j = k then v else m (K j))
      rw [own_updN e, if_neg z1]; exact c
  · rcases hx with hx | rfl
    · obtain ⟨a, j, b, c⟩ := R.2.1 x hx
      refine ⟨a, j, b, ?_⟩
      rw [own_updN fun z => a (by rw [← c, z]; exact hf)]; exact c
    · exact ⟨hk, i, hi, own_updE _ _ _⟩
  · show (if x = k then v else m x) = 0
    rw [if_neg fun z => hx (Or.inr z)]; exact R.2.2.1 x fun z => hx (Or.inl z)
  · rw [own_cnt_upd hi hf hk, R.2.2.2]
theorem own_rep_eq {D' : Int64 → Prop} {m' : Int64 → Int64} {sz' : Nat} (R : own_Rep K W n hs D m sz) (h1 : ∀ k, D k ↔ D' k) (h2 : ∀ k, m k = m' k) (h3 : sz = sz') : own_Rep K W n hs D' m' sz' := by
  have e1 : D = D' := funext fun k => propext (h1 k)
  have e2 : m = m' := funext h2
  subst e1 e2 h3; exact R
end OwnRep
/-- what has been copied of the first i slots -/
def own_Part (K : Nat → Int64) (i : Nat) (k : Int64) : Prop := k ≠ own_FREE ∧ ∃ j, j < i ∧ K j = k
open Classical in
theorem own_part_skip {K K2 W2 : Nat → Int64} {n2 : Nat} {hs2 : Int64 → Nat} {m : Int64 → Int64} {i : Nat} (R : own_Rep K2 W2 n2 hs2 (own_Part K i) (fun x => if own_Part K i x then m x else 0) (own_cnt K i)) (h : K i = own_FREE) :
    own_Rep K2 W2 n2 hs2 (own_Part K (i + 1)) (fun x => if own_Part K (i + 1) x then m x else 0) (own_cnt K (i + 1)) := by
  have e : ∀ x, own_Part K i x ↔ own_Part K (i + 1) x := fun x => ⟨fun ⟨a, j, b, c⟩ => ⟨a, j, by omega, c⟩, fun ⟨a, j, b, c⟩ => ⟨a, j, by
    by_cases z : j = i
    · subst z; exact absurd (c.symm.trans h) a
    · omega, c⟩⟩
  refine own_rep_eq R e (fun x => ?_) (by simp only [own_cnt, if_pos h]; omega)
  by_cases q : own_Part K i x
  · rw [if_pos q, if_pos ((e x).mp q)]
  · rw [if_neg q, if_neg fun z => q ((e x).mpr z)]
open Classical in
theorem own_part_put {K W : Nat → Int64} {n : Nat} {hs : Int64 → Nat} {D : Int64 → Prop} {m : Int64 → Int64} {sz : Nat} {K2 W2 : Nat → Int64} {n2 : Nat} {hs2 : Int64 → Nat} {i j : Nat} (R0 : own_Rep K W n hs D m sz) (hi : i < n) (h : K i ≠ own_FREE)
    (R : own_Rep K2 W2 n2 hs2 (own_Part K i) (fun x => if own_Part K i x then m x else 0) (own_cnt K i)) (hj : j < n2) (I : own_Idx K2 n2 (hs2 (K i)) (K i) j) :
    K2 j = own_FREE ∧ own_Rep (own_upd K2 j (K i)) (own_upd W2 j (W i)) n2 hs2 (own_Part K (i + 1)) (fun x => if own_Part K (i + 1) x then m x else 0) (own_cnt K (i + 1)) := by
  have hf : K2 j = own_FREE := by
    obtain ⟨-, -, -, q | q⟩ := id I
    · have := (own_rep_dom R hj h q).1
      obtain ⟨-, r, b, c⟩ := this
      have := own_rep_inj R0 (Nat.lt_trans b hi) hi c (c ▸ h)
      omega
    · exact q
  refine ⟨hf, ?_⟩
  have P := own_rep_put R hj h I hf (W i)
  refine own_rep_eq P (fun x => ?_) (fun x => ?_) (by simp only [own_cnt, if_neg h])
  · constructor
    · rintro (⟨a, r, b, c⟩ | rfl)
      · exact ⟨a, r, by omega, c⟩
      · exact ⟨h, i, by omega, rfl⟩
    · rintro ⟨a, r, b, c⟩
      by_cases z : r = i
      · subst z; exact Or.inr c.symm
      · exact Or.inl ⟨a, r, by omega, c⟩
  · show (if x = K i then W i else if own_Part K i x then m x else 0) = if own_Part K (i + 1) x then m x else 0
    by_cases z : x = K i
    · subst z
      have z1 : own_Part K (i + 1) (K i) := ⟨h, i, Nat.lt_succ_self i, rfl⟩
      rw [if_pos rfl, if_pos z1]
      exact (R0.1 i hi h).2.2
    · rw [if_neg z]
      by_cases q : own_Part K i x
      · have z1 : own_Part K (i + 1) x := by obtain ⟨a, r, b, c⟩ := q; exact ⟨a, r, by omega, c⟩
        rw [if_pos q, if_pos z1]
      · have z1 : ¬ own_Part K (i + 1) x := fun ⟨a, r, b, c⟩ => q ⟨a, r, by
          by_cases y : r = i
          · subst y; exact absurd c.symm z
          · omega, c⟩
        rw [if_neg q, if_neg z1]
open Classical in
theorem own_part_all {K W : Nat → Int64} {n : Nat} {hs : Int64 → Nat} {D : Int64 → Prop} {m : Int64 → Int64} {sz : Nat} {K2 W2 : Nat → Int64} {n2 : Nat} {hs2 : Int64 → Nat} (R0 : own_Rep K W n hs D m sz)
    (R : own_Rep K2 W2 n2 hs2 (own_Part K n) (fun x => if own_Part K n x then m x else 0) (own_cnt K n)) : own_Rep K2 W2 n2 hs2 D m sz := by
  have e : ∀ x, own_Part K n x ↔ D x := fun x => ⟨fun ⟨a, j, b, c⟩ => (own_rep_dom R0 b a c).1, fun q => by obtain ⟨a, j, b, c⟩ := R0.2.1 x q; exact ⟨a, j, b, c⟩⟩
  refine own_rep_eq R e (fun x => ?_) R0.2.2.2
  by_cases q : own_Part K n x
  · rw [if_pos q]
  · rw [if_neg q, R0.2.2.1 x fun z => q ((e x).mpr z)]
open Classical in
theorem own_part_none {K K2 W2 : Nat → Int64} {n2 : Nat} {hs2 : Int64 → Nat} {m : Int64 → Int64} (h : ∀ i, i < n2 → K2 i = own_FREE) : own_Rep K2 W2 n2 hs2 (own_Part K 0) (fun x => if own_Part K 0 x then m x else 0) (own_cnt K 0) := by
  refine own_rep_eq (own_rep_empty h) (fun x => ⟨fun q => q.elim, fun ⟨_, j, b, _⟩ => by omega⟩) (fun x => ?_) rfl
  have z1 : ¬ own_Part K 0 x := fun ⟨_, j, b, _⟩ => by omega
  rw [if_neg z1]
def own_K (arr : List Int64) (i : Nat) : Int64 := arr.getD (2 * i) 0
def own_W (arr : List Int64) (i : Nat) : Int64 := arr.getD (2 * i + 1) 0
def own_p (i : Nat) : Int32 := Int32.ofNat (2 * i)
def own_hs (n : Nat) (k : Int64) : Nat := (k * (-7046029254386353131)).toUInt64.toNat / (if n = 4 then 2 ^ 62 else 2 ^ 61)
def own_new4 : List Int64 := [-9223372036854775808, 0, -9223372036854775808, 0, -9223372036854775808, 0, -9223372036854775808, 0]
def own_new8 : List Int64 := [-9223372036854775808, 0, -9223372036854775808, 0, -9223372036854775808, 0, -9223372036854775808, 0, -9223372036854775808, 0, -9223372036854775808, 0, -9223372036854775808, 0, -9223372036854775808, 0]
theorem own_new4K : ∀ i, i < 4 → own_K own_new4 i = own_FREE := fun i hi => (by decide +kernel : ∀ i : Fin 4, own_K own_new4 i.1 = own_FREE) ⟨i, hi⟩
theorem own_new8K : ∀ i, i < 8 → own_K own_new8 i = own_FREE := fun i hi => (by decide +kernel : ∀ i : Fin 8, own_K own_new8 i.1 = own_FREE) ⟨i, hi⟩
theorem own_ld (arr : List Int64) (j : Nat) : (arr.map Value.long).getD j (.long (0 : Int64)) = .long (arr.getD j 0) := by
  simp only [List.getD_eq_getElem?_getD, List.getElem?_map]; cases arr[j]? <;> rfl
theorem own_hn {n : Nat} {sh : Int32} (h : (n = 4 ∧ sh = 62) ∨ (n = 8 ∧ sh = 61)) : n = 4 ∨ n = 8 := h.elim (fun q => Or.inl q.1) fun q => Or.inr q.1
theorem own_n0 {n : Nat} (h : n = 4 ∨ n = 8) : 0 < n := by omega
theorem own_lt8 {i n : Nat} (h : i < n) (hn : n = 4 ∨ n = 8) : i < 8 := by omega
theorem own_pN {i : Nat} (h : i < 8) : (own_p i).toNatClampNeg = 2 * i := (by decide +kernel : ∀ i : Fin 8, (own_p i.1).toNatClampNeg = 2 * i.1) ⟨i, h⟩
theorem own_p0 {i : Nat} (h : i < 8) : ¬ own_p i < 0 := (by decide +kernel : ∀ i : Fin 8, ¬ own_p i.1 < 0) ⟨i, h⟩
theorem own_qN {i : Nat} (h : i < 8) : (own_p i + (1 : Int32)).toNatClampNeg = 2 * i + 1 := (by decide +kernel : ∀ i : Fin 8, (own_p i.1 + (1 : Int32)).toNatClampNeg = 2 * i.1 + 1) ⟨i, h⟩
theorem own_q0 {i : Nat} (h : i < 8) : ¬ own_p i + (1 : Int32) < 0 := (by decide +kernel : ∀ i : Fin 8, ¬ own_p i.1 + (1 : Int32) < 0) ⟨i, h⟩
theorem own_plt {i n : Nat} (h : i < n) (hn : n = 4 ∨ n = 8) : own_p i < Int32.ofNat (2 * n) := by
  rcases hn with rfl | rfl
  · exact (by decide +kernel : ∀ i : Fin 4, own_p i.1 < Int32.ofNat (2 * 4)) ⟨i, h⟩
  · exact (by decide +kernel : ∀ i : Fin 8, own_p i.1 < Int32.ofNat (2 * 8)) ⟨i, h⟩
theorem own_qlt {i n : Nat} (h : i < n) (hn : n = 4 ∨ n = 8) : own_p i + (1 : Int32) < Int32.ofNat (2 * n) := by
  rcases hn with rfl | rfl
  · exact (by decide +kernel : ∀ i : Fin 4, own_p i.1 + (1 : Int32) < Int32.ofNat (2 * 4)) ⟨i, h⟩
  · exact (by decide +kernel : ∀ i : Fin 8, own_p i.1 + (1 : Int32) < Int32.ofNat (2 * 8)) ⟨i, h⟩
theorem own_pnext {i n : Nat} (h : i < n) (hn : n = 4 ∨ n = 8) : ((own_p i + (2 : Int32)) &&& (Int32.ofNat (2 * n) - (1 : Int32))) = own_p ((i + 1) % n) := by
  rcases hn with rfl | rfl
  · exact (by decide +kernel : ∀ i : Fin 4, ((own_p i.1 + (2 : Int32)) &&& (Int32.ofNat (2 * 4) - (1 : Int32))) = own_p ((i.1 + 1) % 4)) ⟨i, h⟩
  · exact (by decide +kernel : ∀ i : Fin 8, ((own_p i.1 + (2 : Int32)) &&& (Int32.ofNat (2 * 8) - (1 : Int32))) = own_p ((i.1 + 1) % 8)) ⟨i, h⟩
theorem own_ldK (arr : List Int64) {i : Nat} (h : i < 8) : (arr.map Value.long).getD (own_p i).toNatClampNeg (.long (0 : Int64)) = .long (own_K arr i) := by rw [own_pN h]; exact own_ld arr _
theorem own_ldW (arr : List Int64) {i : Nat} (h : i < 8) : (arr.map Value.long).getD (own_p i + (1 : Int32)).toNatClampNeg (.long (0 : Int64)) = .long (own_W arr i) := by rw [own_qN h]; exact own_ld arr _
theorem own_mod1 {i f n : Nat} : (i + (f + 1)) % n = ((i + 1) % n + f) % n := by rw [Nat.mod_add_mod]; congr 1; omega
theorem own_idx_step {K : Nat → Int64} {n i i' : Nat} {k : Int64} (hi : i < n) (h1 : ¬ K i = k) (h2 : ¬ K i = own_FREE) (P : own_Idx K n ((i + 1) % n) k i') : own_Idx K n i k i' := by
  obtain ⟨d, e1, p, q⟩ := P
  refine ⟨d + 1, by rw [own_mod1]; exact e1, fun e he => ?_, q⟩
  cases e with
  | zero => rw [Nat.add_zero, Nat.mod_eq_of_lt hi]; exact ⟨h2, h1⟩
  | succ e => rw [own_mod1]; exact p e (by omega)
theorem own_hslt (k : Int64) {n : Nat} (hn : n = 4 ∨ n = 8) : own_hs n k < n := by
  have h := (k * (-7046029254386353131)).toUInt64.toNat_lt
  rcases hn with rfl | rfl
  · show _ / (if 4 = 4 then 2 ^ 62 else 2 ^ 61) < 4; rw [if_pos rfl]; omega
  · show _ / (if 8 = 4 then 2 ^ 62 else 2 ^ 61) < 8; rw [if_neg (by decide)]; omega
theorem own_far {K : Nat → Int64} {n h : Nat} (hf : ∃ j, j < n ∧ K j = own_FREE) (hh : h < n) : ∃ f, K ((h + f) % n) = own_FREE := by
  obtain ⟨j, hj, e⟩ := hf
  refine ⟨j + n - h, ?_⟩
  rw [show h + (j + n - h) = j + n by omega, Nat.add_mod_right, Nat.mod_eq_of_lt hj]; exact e
theorem own_sh (y : UInt64) (h : y.toNat < 8) : (y.toInt64.toInt32 <<< ((1 : Int32) &&& 31)) = own_p y.toNat := by
  have e : y = UInt64.ofNat y.toNat := (UInt64.ofNat_toNat).symm
  rw [e, UInt64.toNat_ofNat_of_lt' (Nat.lt_trans h (by decide))]
  exact (by decide +kernel : ∀ j : Fin 8, ((UInt64.ofNat j.1).toInt64.toInt32 <<< ((1 : Int32) &&& 31)) = own_p j.1) ⟨_, h⟩
theorem own_hash (k : Int64) {n : Nat} {sh : Int32} (hns : (n = 4 ∧ sh = 62) ∨ (n = 8 ∧ sh = 61)) : (((((k * (-7046029254386353131 : Int64)).toUInt64 >>> (sh &&& 0x3f).toInt64.toUInt64).toInt64).toInt32) <<< ((1 : Int32) &&& 31)) = own_p (own_hs n k) := by
  have h := (k * (-7046029254386353131)).toUInt64.toNat_lt
  rcases hns with ⟨rfl, rfl⟩ | ⟨rfl, rfl⟩
  · have e : ((k * (-7046029254386353131 : Int64)).toUInt64 >>> ((62 : Int32) &&& 0x3f).toInt64.toUInt64).toNat = own_hs 4 k := by
      rw [show ((62 : Int32) &&& 0x3f).toInt64.toUInt64 = (62 : UInt64) from by decide, UInt64.toNat_shiftRight, Nat.shiftRight_eq_div_pow]
      show _ / 2 ^ 62 = _ / (if 4 = 4 then 2 ^ 62 else 2 ^ 61); rw [if_pos rfl]
    rw [← e]; exact own_sh _ (by rw [e]; have := own_hslt k (n := 4) (Or.inl rfl); omega)
  · have e : ((k * (-7046029254386353131 : Int64)).toUInt64 >>> ((61 : Int32) &&& 0x3f).toInt64.toUInt64).toNat = own_hs 8 k := by
      rw [show ((61 : Int32) &&& 0x3f).toInt64.toUInt64 = (61 : UInt64) from by decide, UInt64.toNat_shiftRight, Nat.shiftRight_eq_div_pow]
      show _ / 2 ^ 61 = _ / (if 8 = 4 then 2 ^ 62 else 2 ^ 61); rw [if_neg (by decide)]
    rw [← e]; exact own_sh _ (by rw [e]; exact own_hslt k (n := 8) (Or.inr rfl))
theorem own_Kins {arr : List Int64} {i n : Nat} {k v : Int64} (hl : arr.length = 2 * n) (hi : i < n) : own_K ((arr.set (2 * i) k).set (2 * i + 1) v) = own_upd (own_K arr) i k := funext fun j => by
  unfold own_K own_upd
  simp only [List.getD_eq_getElem?_getD]
  rw [List.getElem?_set_ne (by omega)]
  by_cases q : j = i
  · subst q; rw [if_pos rfl, List.getElem?_set_self (by omega)]; rfl
  · rw [if_neg q, List.getElem?_set_ne (by omega)]
theorem own_Wins {arr : List Int64} {i n : Nat} {k v : Int64} (hl : arr.length = 2 * n) (hi : i < n) : own_W ((arr.set (2 * i) k).set (2 * i + 1) v) = own_upd (own_W arr) i v := funext fun j => by
  unfold own_W own_upd
  simp only [List.getD_eq_getElem?_getD]
  by_cases q : j = i
  · subst q; rw [if_pos rfl, List.getElem?_set_self (by rw [List.length_set]; omega)]; rfl
  · rw [if_neg q, List.getElem?_set_ne (by omega), List.getElem?_set_ne (by omega)]
theorem own_Kset {arr : List Int64} {i : Nat} {v : Int64} : own_K (arr.set (2 * i + 1) v) = own_K arr := funext fun j => by
  unfold own_K; simp only [List.getD_eq_getElem?_getD]; rw [List.getElem?_set_ne (by omega)]
theorem own_Wset {arr : List Int64} {i n : Nat} {v : Int64} (hl : arr.length = 2 * n) (hi : i < n) : own_W (arr.set (2 * i + 1) v) = own_upd (own_W arr) i v := funext fun j => by
  unfold own_W own_upd
  simp only [List.getD_eq_getElem?_getD]
  by_cases q : j = i
  · subst q; rw [if_pos rfl, List.getElem?_set_self (by omega)]; rfl
  · rw [if_neg q, List.getElem?_set_ne (by omega)]
theorem ne_arrV {Z : State} {h : Heap} {t a : Addr} {C : String} {a0 : Array Value} {n : Nat} {k : ClassId} {ty : FieldType} {z : Int32} {vs : List Value} {d : Value} (E : Exa Z h t C) (wi : (Jvm.Cond.instantiable C n).before a0 Z = true) (A : Arv Z h a k ty z vs d) : t ≠ a := by
  obtain ⟨c, Ar, -⟩ := A; exact ne_arr E wi Ar

theorem d8_0 : decode prog_19_method_7_code 0 = .ok (.lload_n 0, 1) := by decide +kernel
theorem d8_1 : decode prog_19_method_7_code 1 = .ok (.ldc2_w 18, 3) := by decide +kernel
theorem d8_4 : decode prog_19_method_7_code 4 = .ok (.lcmp, 1) := by decide +kernel
theorem d8_5 : decode prog_19_method_7_code 5 = .ok (.ifCond .ne 13, 3) := by decide +kernel
theorem d8_18 : decode prog_19_method_7_code 18 = .ok (.lload_n 0, 1) := by decide +kernel
theorem d8_19 : decode prog_19_method_7_code 19 = .ok (.lreturn, 1) := by decide +kernel
theorem pn_8 : plainName "com/example/pricewright/pricewright/core/LongSumTable" = true := by first | (simp [plainName, overriddenIn]; done) | decide +kernel
theorem ef_rmH (m : MethodId) (q1 : Int64) : entryFrame m #[(.long q1)] 2 = mkF m 0 #[.val (.long q1), .second] [] := by first | (simp [entryFrame, mkF, argsToLocals, Value.category]; done) | rfl
def QrmH (Z : State) (q1 : Int64) (h0 : Heap) (n0 : Nat) (v : Option Value) (h : Heap) (L : List Loc) : Prop := ∃ z : Int64, z = (q1) ∧ v = some (.long z) ∧ Fr n0 L ∧ h = h0
set_option maxRecDepth 65536 in
set_option maxHeartbeats 40000000 in
theorem rmH (l : Launch) (Z : State) (a0 : Array Value) (hw : ∀ d ∈ tables_1, d.before a0 Z = true) (ws : List Jvm.Cond) (q1 : Int64) (h0 : Heap) (n0 : Nat) (Z0 : n0 ≤ h0.size) (hk : ¬ q1 = (-9223372036854775808 : Int64)) :
    MetFree l (⟨"com/example/pricewright/pricewright/core/LongSumTable", "held", "(J)J"⟩ : MethodName) (head1 (Jvm.Cond.code (⟨"com/example/pricewright/pricewright/core/LongSumTable", "held", "(J)J"⟩ : MethodName) prog_19_method_7_code 2 (some .long) :: ws) ({ frames := 0, cells := 0, slots := 0, locals := 0 } : Room)) (fun a U => a = #[(.long q1)] ∧ Z.Warmed39 U.vm ∧ U.heap = h0) (fun _ _ _ _ _ => True) (fun _ U o U' => ∃ v L, o = .returned v ∧ QrmH Z q1 h0 n0 v U'.heap L ∧ FrameEnd U o U' L ({ frames := 0, cells := 0, slots := 0, locals := 0 } : Room).cells ({ frames := 0, cells := 0, slots := 0, locals := 0 } : Room).slots) := by
  refine MetFree.of_bodySF (plainFor_of_name pn_8) hisR ?_
  intro p e s m args below meth c s₁ Bd hml0 hP hK
  obtain ⟨rfl, hZ, hh⟩ := hP
  have hx := Bd.exec
  have hby := Bd.bytes
  have hml : c.maxLocals = 2 := hml0
  have hown : s.vm.findClass "com/example/pricewright/pricewright/core/LongSumTable" = some m.cls := findClass_of_methodNamed Bd.named
  have hnm := (name_of_methodNamed Bd.named Bd.method).1
  have X0 : Stand p l e ({ frames := 0, cells := 0, slots := 0, locals := 0 } : Room) s m #[(.long q1)] below meth c s₁ [] 0 0 := Stand.of_body Bd
  have e0 : s₁.heap = h0 := by rw [← hh, Bd.state]; rfl
  have N0 := Fr.nil n0
  have pre0 : ∀ t, Steps p.tables e below (s₁.setTop (mkF m 0 #[.val (.long q1), .second] [])) t → Steps p.tables e below (s₁.setTop (entryFrame m #[(.long q1)] 2)) t := fun t k => castTop (ef_rmH m q1) k
  obtain ⟨fs, hr, hrun, hended, hW, hsame⟩ := X0.leave (v := some (.long q1)) (fun h => by rw [Bd.returns] at h; cases h)
  refine ⟨_, _, pre0 _ ?_, hrun, hended, _, _, rfl, ?_, ⟨_, rfl⟩, hW, hsame.mono (by decide) (by decide)⟩
  · show Steps p.tables e below (s₁.setTop (mkF m 0 #[.val (.long q1), .second] [])) _
    refine XS.lloadN X0.here hx rfl (hb hby d8_0) rfl ?_
    show Steps p.tables e below (s₁.setTop (mkF m 1 #[.val (.long q1), .second] [(.long q1)])) _
    refine X0.ldc2Long hx hown (mvT hZ (hw _ (List.mem_of_getElem? (i := 21) rfl))) (g := (mkF m 1 #[.val (.long q1), .second] [(.long q1)])) rfl (hb hby d8_1) _ ?_
    show Steps p.tables e below (s₁.setTop (mkF m 4 #[.val (.long q1), .second] [(.long (-9223372036854775808 : Int64)), (.long q1)])) _
    refine XS.lcmp X0.here hx rfl (hb hby d8_4) rfl ?_
    show Steps p.tables e below (s₁.setTop (mkF m 5 #[.val (.long q1), .second] [(.int (lcmpW q1 (-9223372036854775808 : Int64)))])) _
    refine XS.ifYes X0.here hx rfl (pc0 := 5) (pc' := 18) rfl (hb hby d8_5) rfl ((if0 _ _).trans (feq (own_lcne hk)).2) (by decide) (by decide) ?_
    show Steps p.tables e below (s₁.setTop (mkF m 18 #[.val (.long q1), .second] [])) _
    refine XS.lloadN X0.here hx rfl (hb hby d8_18) rfl ?_
    show Steps p.tables e below (s₁.setTop (mkF m 19 #[.val (.long q1), .second] [(.long q1)])) _
    exact X0.lreturnOut hx Bd.returns (hb hby d8_19) hr
  · show QrmH Z q1 h0 n0 _ s₁.heap _
    exact ⟨_, rfl, rfl, N0, e0⟩
theorem d14_0 : decode jdk_29_method_25_code 0 = .ok (.lload_n 0, 1) := by decide +kernel
theorem d14_1 : decode jdk_29_method_25_code 1 = .ok (.lload_n 2, 1) := by decide +kernel
theorem d14_2 : decode jdk_29_method_25_code 2 = .ok (.ladd, 1) := by decide +kernel
theorem d14_3 : decode jdk_29_method_25_code 3 = .ok (.lstore 4, 2) := by decide +kernel
theorem d14_5 : decode jdk_29_method_25_code 5 = .ok (.lload_n 0, 1) := by decide +kernel
theorem d14_6 : decode jdk_29_method_25_code 6 = .ok (.lload 4, 2) := by decide +kernel
theorem d14_8 : decode jdk_29_method_25_code 8 = .ok (.lxor, 1) := by decide +kernel
theorem d14_9 : decode jdk_29_method_25_code 9 = .ok (.lload_n 2, 1) := by decide +kernel
theorem d14_10 : decode jdk_29_method_25_code 10 = .ok (.lload 4, 2) := by decide +kernel
theorem d14_12 : decode jdk_29_method_25_code 12 = .ok (.lxor, 1) := by decide +kernel
theorem d14_13 : decode jdk_29_method_25_code 13 = .ok (.land, 1) := by decide +kernel
theorem d14_14 : decode jdk_29_method_25_code 14 = .ok (.lconst 0, 1) := by decide +kernel
theorem d14_15 : decode jdk_29_method_25_code 15 = .ok (.lcmp, 1) := by decide +kernel
theorem d14_16 : decode jdk_29_method_25_code 16 = .ok (.ifCond .ge 13, 3) := by decide +kernel
theorem d14_29 : decode jdk_29_method_25_code 29 = .ok (.lload 4, 2) := by decide +kernel
theorem d14_31 : decode jdk_29_method_25_code 31 = .ok (.lreturn, 1) := by decide +kernel
theorem ef_rmE (m : MethodId) (q1 : Int64) (q2 : Int64) : entryFrame m #[(.long q1), (.long q2)] 6 = mkF m 0 #[.val (.long q1), .second, .val (.long q2), .second, .unset, .unset] [] := by first | (simp [entryFrame, mkF, argsToLocals, Value.category]; done) | rfl
def QrmE (Z : State) (q1 : Int64) (q2 : Int64) (h0 : Heap) (n0 : Nat) (v : Option Value) (h : Heap) (L : List Loc) : Prop := ∃ z : Int64, z = (q1 + q2) ∧ v = some (.long z) ∧ Fr n0 L ∧ h = h0
set_option maxRecDepth 65536 in
set_option maxHeartbeats 40000000 in
theorem rmE (l : Launch) (Z : State) (a0 : Array Value) (hw : ∀ d ∈ tables_1, d.before a0 Z = true) (ws : List Jvm.Cond) (q1 : Int64) (q2 : Int64) (h0 : Heap) (n0 : Nat) (Z0 : n0 ≤ h0.size) (ho : ¬ ((q1 ^^^ (q1 + q2)) &&& (q2 ^^^ (q1 + q2))) < (0 : Int64)) :
    MetFree l (⟨"java/lang/Math", "addExact", "(JJ)J"⟩ : MethodName) (head1 (Jvm.Cond.code (⟨"java/lang/Math", "addExact", "(JJ)J"⟩ : MethodName) jdk_29_method_25_code 6 (some .long) :: ws) ({ frames := 0, cells := 0, slots := 0, locals := 0 } : Room)) (fun a U => a = #[(.long q1), (.long q2)] ∧ Z.Warmed39 U.vm ∧ U.heap = h0) (fun _ _ _ _ _ => True) (fun _ U o U' => ∃ v L, o = .returned v ∧ QrmE Z q1 q2 h0 n0 v U'.heap L ∧ FrameEnd U o U' L ({ frames := 0, cells := 0, slots := 0, locals := 0 } : Room).cells ({ frames := 0, cells := 0, slots := 0, locals := 0 } : Room).slots) := by
  refine MetFree.of_bodySF (Jvm.Free.JP.mathPlain rfl (by decide +kernel)) hisR ?_
  intro p e s m args below meth c s₁ Bd hml0 hP hK
  obtain ⟨rfl, hZ, hh⟩ := hP
  have hx := Bd.exec
  have hby := Bd.bytes
  have hml : c.maxLocals = 6 := hml0
  have hown : s.vm.findClass "java/lang/Math" = some m.cls := findClass_of_methodNamed Bd.named
  have hnm := (name_of_methodNamed Bd.named Bd.method).1
  have X0 : Stand p l e ({ frames := 0, cells := 0, slots := 0, locals := 0 } : Room) s m #[(.long q1), (.long q2)] below meth c s₁ [] 0 0 := Stand.of_body Bd
  have e0 : s₁.heap = h0 := by rw [← hh, Bd.state]; rfl
  have N0 := Fr.nil n0
  have pre0 : ∀ t, Steps p.tables e below (s₁.setTop (mkF m 0 #[.val (.long q1), .second, .val (.long q2), .second, .unset, .unset] [])) t → Steps p.tables e below (s₁.setTop (entryFrame m #[(.long q1), (.long q2)] 6)) t := fun t k => castTop (ef_rmE m q1 q2) k
  obtain ⟨fs, hr, hrun, hended, hW, hsame⟩ := X0.leave (v := some (.long (q1 + q2))) (fun h => by rw [Bd.returns] at h; cases h)
  refine ⟨_, _, pre0 _ ?_, hrun, hended, _, _, rfl, ?_, ⟨_, rfl⟩, hW, hsame.mono (by decide) (by decide)⟩
  · show Steps p.tables e below (s₁.setTop (mkF m 0 #[.val (.long q1), .second, .val (.long q2), .second, .unset, .unset] [])) _
    refine XS.lloadN X0.here hx rfl (hb hby d14_0) rfl ?_
    show Steps p.tables e below (s₁.setTop (mkF m 1 #[.val (.long q1), .second, .val (.long q2), .second, .unset, .unset] [(.long q1)])) _
    refine XS.lloadN X0.here hx rfl (hb hby d14_1) rfl ?_
    show Steps p.tables e below (s₁.setTop (mkF m 2 #[.val (.long q1), .second, .val (.long q2), .second, .unset, .unset] [(.long q2), (.long q1)])) _
    refine XS.ladd X0.here hx rfl (hb hby d14_2) rfl ?_
    show Steps p.tables e below (s₁.setTop (mkF m 3 #[.val (.long q1), .second, .val (.long q2), .second, .unset, .unset] [(.long (q1 + q2))])) _
    refine XS.lstore X0.here hx rfl (hb hby d14_3) rfl (l' := #[.val (.long q1), .second, .val (.long q2), .second, .val (.long (q1 + q2)), .second]) rfl ?_
    show Steps p.tables e below (s₁.setTop (mkF m 5 #[.val (.long q1), .second, .val (.long q2), .second, .val (.long (q1 + q2)), .second] [])) _
    refine XS.lloadN X0.here hx rfl (hb hby d14_5) rfl ?_
    show Steps p.tables e below (s₁.setTop (mkF m 6 #[.val (.long q1), .second, .val (.long q2), .second, .val (.long (q1 + q2)), .second] [(.long q1)])) _
    refine XS.lload X0.here hx rfl (hb hby d14_6) rfl ?_
    show Steps p.tables e below (s₁.setTop (mkF m 8 #[.val (.long q1), .second, .val (.long q2), .second, .val (.long (q1 + q2)), .second] [(.long (q1 + q2)), (.long q1)])) _
    refine XS.lxor X0.here hx rfl (hb hby d14_8) rfl ?_
    show Steps p.tables e below (s₁.setTop (mkF m 9 #[.val (.long q1), .second, .val (.long q2), .second, .val (.long (q1 + q2)), .second] [(.long (q1 ^^^ (q1 + q2)))])) _
    refine XS.lloadN X0.here hx rfl (hb hby d14_9) rfl ?_
    show Steps p.tables e below (s₁.setTop (mkF m 10 #[.val (.long q1), .second, .val (.long q2), .second, .val (.long (q1 + q2)), .second] [(.long q2), (.long (q1 ^^^ (q1 + q2)))])) _
    refine XS.lload X0.here hx rfl (hb hby d14_10) rfl ?_
    show Steps p.tables e below (s₁.setTop (mkF m 12 #[.val (.long q1), .second, .val (.long q2), .second, .val (.long (q1 + q2)), .second] [(.long (q1 + q2)), (.long q2), (.long (q1 ^^^ (q1 + q2)))])) _
    refine XS.lxor X0.here hx rfl (hb hby d14_12) rfl ?_
    show Steps p.tables e below (s₁.setTop (mkF m 13 #[.val (.long q1), .second, .val (.long q2), .second, .val (.long (q1 + q2)), .second] [(.long (q2 ^^^ (q1 + q2))), (.long (q1 ^^^ (q1 + q2)))])) _
    refine XS.land X0.here hx rfl (hb hby d14_13) rfl ?_
    show Steps p.tables e below (s₁.setTop (mkF m 14 #[.val (.long q1), .second, .val (.long q2), .second, .val (.long (q1 + q2)), .second] [(.long ((q1 ^^^ (q1 + q2)) &&& (q2 ^^^ (q1 + q2))))])) _
    refine XS.lconst X0.here hx rfl (hb hby d14_14) ?_
    show Steps p.tables e below (s₁.setTop (mkF m 15 #[.val (.long q1), .second, .val (.long q2), .second, .val (.long (q1 + q2)), .second] [(.long (0 : Int64)), (.long ((q1 ^^^ (q1 + q2)) &&& (q2 ^^^ (q1 + q2))))])) _
    refine XS.lcmp X0.here hx rfl (hb hby d14_15) rfl ?_
    show Steps p.tables e below (s₁.setTop (mkF m 16 #[.val (.long q1), .second, .val (.long q2), .second, .val (.long (q1 + q2)), .second] [(.int (lcmpW ((q1 ^^^ (q1 + q2)) &&& (q2 ^^^ (q1 + q2))) (0 : Int64)))])) _
    refine XS.ifYes X0.here hx rfl (pc0 := 16) (pc' := 29) rfl (hb hby d14_16) rfl ((if0 _ _).trans (flt (own_lcnlt ho)).2.1) (by decide) (by decide) ?_
    show Steps p.tables e below (s₁.setTop (mkF m 29 #[.val (.long q1), .second, .val (.long q2), .second, .val (.long (q1 + q2)), .second] [])) _
    refine XS.lload X0.here hx rfl (hb hby d14_29) rfl ?_
    show Steps p.tables e below (s₁.setTop (mkF m 31 #[.val (.long q1), .second, .val (.long q2), .second, .val (.long (q1 + q2)), .second] [(.long (q1 + q2))])) _
    exact X0.lreturnOut hx Bd.returns (hb hby d14_31) hr
  · show QrmE Z q1 q2 h0 n0 _ s₁.heap _
    exact ⟨_, rfl, rfl, N0, e0⟩
theorem d6_0 : decode jdk_33_method_47_code 0 = .ok (.iload_n 0, 1) := by decide +kernel
theorem d6_1 : decode jdk_33_method_47_code 1 = .ok (.ifCond .gt 14, 3) := by decide +kernel
theorem d6_15 : decode jdk_33_method_47_code 15 = .ok (.bipush 31, 2) := by decide +kernel
theorem d6_17 : decode jdk_33_method_47_code 17 = .ok (.istore_n 1, 1) := by decide +kernel
theorem d6_18 : decode jdk_33_method_47_code 18 = .ok (.iload_n 0, 1) := by decide +kernel
theorem d6_19 : decode jdk_33_method_47_code 19 = .ok (.ldc_w 264, 3) := by decide +kernel
theorem d6_22 : decode jdk_33_method_47_code 22 = .ok (.if_icmp .lt 11, 3) := by decide +kernel
theorem d6_33 : decode jdk_33_method_47_code 33 = .ok (.iload_n 0, 1) := by decide +kernel
theorem d6_34 : decode jdk_33_method_47_code 34 = .ok (.sipush 256, 3) := by decide +kernel
theorem d6_37 : decode jdk_33_method_47_code 37 = .ok (.if_icmp .lt 11, 3) := by decide +kernel
theorem d6_48 : decode jdk_33_method_47_code 48 = .ok (.iload_n 0, 1) := by decide +kernel
theorem d6_49 : decode jdk_33_method_47_code 49 = .ok (.bipush 16, 2) := by decide +kernel
theorem d6_51 : decode jdk_33_method_47_code 51 = .ok (.if_icmp .lt 10, 3) := by decide +kernel
theorem d6_61 : decode jdk_33_method_47_code 61 = .ok (.iload_n 0, 1) := by decide +kernel
theorem d6_62 : decode jdk_33_method_47_code 62 = .ok (.iconst 4, 1) := by decide +kernel
theorem d6_63 : decode jdk_33_method_47_code 63 = .ok (.if_icmp .lt 10, 3) := by decide +kernel
theorem d6_66 : decode jdk_33_method_47_code 66 = .ok (.iinc 1 (-2), 3) := by decide +kernel
theorem d6_69 : decode jdk_33_method_47_code 69 = .ok (.iload_n 0, 1) := by decide +kernel
theorem d6_70 : decode jdk_33_method_47_code 70 = .ok (.iconst 2, 1) := by decide +kernel
theorem d6_71 : decode jdk_33_method_47_code 71 = .ok (.iushr, 1) := by decide +kernel
theorem d6_72 : decode jdk_33_method_47_code 72 = .ok (.istore_n 0, 1) := by decide +kernel
theorem d6_73 : decode jdk_33_method_47_code 73 = .ok (.iload_n 1, 1) := by decide +kernel
theorem d6_74 : decode jdk_33_method_47_code 74 = .ok (.iload_n 0, 1) := by decide +kernel
theorem d6_75 : decode jdk_33_method_47_code 75 = .ok (.iconst 1, 1) := by decide +kernel
theorem d6_76 : decode jdk_33_method_47_code 76 = .ok (.iushr, 1) := by decide +kernel
theorem d6_77 : decode jdk_33_method_47_code 77 = .ok (.isub, 1) := by decide +kernel
theorem d6_78 : decode jdk_33_method_47_code 78 = .ok (.ireturn, 1) := by decide +kernel
theorem pn_6 : plainName "java/lang/Integer" = true := by first | (simp [plainName, overriddenIn]; done) | decide +kernel
theorem ef_rmz4 (m : MethodId)  : entryFrame m #[(.int (4 : Int32))] 2 = mkF m 0 #[.val (.int (4 : Int32)), .unset] [] := by first | (simp [entryFrame, mkF, argsToLocals, Value.category]; done) | rfl
def Qrmz4 (Z : State)  (h0 : Heap) (n0 : Nat) (v : Option Value) (h : Heap) (L : List Loc) : Prop := ∃ z : Int32, z = ((29 : Int32)) ∧ v = some (.int z) ∧ Fr n0 L ∧ h = h0
set_option maxRecDepth 65536 in
set_option maxHeartbeats 40000000 in
theorem rmz4 (l : Launch) (Z : State) (a0 : Array Value) (hw : ∀ d ∈ tables_1, d.before a0 Z = true) (ws : List Jvm.Cond)  (h0 : Heap) (n0 : Nat) (Z0 : n0 ≤ h0.size) :
    MetFree l (⟨"java/lang/Integer", "numberOfLeadingZeros", "(I)I"⟩ : MethodName) (head1 (Jvm.Cond.code (⟨"java/lang/Integer", "numberOfLeadingZeros", "(I)I"⟩ : MethodName) jdk_33_method_47_code 2 (some .int) :: ws) ({ frames := 0, cells := 0, slots := 0, locals := 0 } : Room)) (fun a U => a = #[(.int (4 : Int32))] ∧ Z.Warmed39 U.vm ∧ U.heap = h0) (fun _ _ _ _ _ => True) (fun _ U o U' => ∃ v L, o = .returned v ∧ Qrmz4 Z  h0 n0 v U'.heap L ∧ FrameEnd U o U' L ({ frames := 0, cells := 0, slots := 0, locals := 0 } : Room).cells ({ frames := 0, cells := 0, slots := 0, locals := 0 } : Room).slots) := by
  refine MetFree.of_bodySF (plainFor_of_name pn_6) hisR ?_
  intro p e s m args below meth c s₁ Bd hml0 hP hK
  obtain ⟨rfl, hZ, hh⟩ := hP
  have hx := Bd.exec
  have hby := Bd.bytes
  have hml : c.maxLocals = 2 := hml0
  have hown : s.vm.findClass "java/lang/Integer" = some m.cls := findClass_of_methodNamed Bd.named
  have hnm := (name_of_methodNamed Bd.named Bd.method).1
  have X0 : Stand p l e ({ frames := 0, cells := 0, slots := 0, locals := 0 } : Room) s m #[(.int (4 : Int32))] below meth c s₁ [] 0 0 := Stand.of_body Bd
  have e0 : s₁.heap = h0 := by rw [← hh, Bd.state]; rfl
  have N0 := Fr.nil n0
  have pre0 : ∀ t, Steps p.tables e below (s₁.setTop (mkF m 0 #[.val (.int (4 : Int32)), .unset] [])) t → Steps p.tables e below (s₁.setTop (entryFrame m #[(.int (4 : Int32))] 2)) t := fun t k => castTop (ef_rmz4 m ) k
  obtain ⟨fs, hr, hrun, hended, hW, hsame⟩ := X0.leave (v := some (.int (29 : Int32))) (fun h => by rw [Bd.returns] at h; cases h)
  refine ⟨_, _, pre0 _ ?_, hrun, hended, _, _, rfl, ?_, ⟨_, rfl⟩, hW, hsame.mono (by decide) (by decide)⟩
  · show Steps p.tables e below (s₁.setTop (mkF m 0 #[.val (.int (4 : Int32)), .unset] [])) _
    refine XS.iloadN X0.here hx rfl (hb hby d6_0) rfl ?_
    show Steps p.tables e below (s₁.setTop (mkF m 1 #[.val (.int (4 : Int32)), .unset] [(.int (4 : Int32))])) _
    refine XS.ifYes X0.here hx rfl (pc0 := 1) (pc' := 15) rfl (hb hby d6_1) rfl ((if0 _ _).trans (tlt (by decide)).2.2.1) (by decide) (by decide) ?_
    show Steps p.tables e below (s₁.setTop (mkF m 15 #[.val (.int (4 : Int32)), .unset] [])) _
    refine XS.bipush X0.here hx rfl (hb hby d6_15) ?_
    show Steps p.tables e below (s₁.setTop (mkF m 17 #[.val (.int (4 : Int32)), .unset] [(.int (31 : Int32))])) _
    refine XS.istoreN X0.here hx rfl (hb hby d6_17) rfl (l' := #[.val (.int (4 : Int32)), .val (.int (31 : Int32))]) rfl ?_
    show Steps p.tables e below (s₁.setTop (mkF m 18 #[.val (.int (4 : Int32)), .val (.int (31 : Int32))] [])) _
    refine XS.iloadN X0.here hx rfl (hb hby d6_18) rfl ?_
    show Steps p.tables e below (s₁.setTop (mkF m 19 #[.val (.int (4 : Int32)), .val (.int (31 : Int32))] [(.int (4 : Int32))])) _
    refine X0.ldcwInt hx hown (mvT hZ (hw _ (List.mem_of_getElem? (i := 30) rfl))) (g := (mkF m 19 #[.val (.int (4 : Int32)), .val (.int (31 : Int32))] [(.int (4 : Int32))])) rfl (hb hby d6_19) _ ?_
    show Steps p.tables e below (s₁.setTop (mkF m 22 #[.val (.int (4 : Int32)), .val (.int (31 : Int32))] [(.int (65536 : Int32)), (.int (4 : Int32))])) _
    refine XS.icmpYes X0.here hx rfl (pc0 := 22) (pc' := 33) rfl (hb hby d6_22) rfl (tlt (by decide)).1 (by decide) (by decide) ?_
    show Steps p.tables e below (s₁.setTop (mkF m 33 #[.val (.int (4 : Int32)), .val (.int (31 : Int32))] [])) _
    refine XS.iloadN X0.here hx rfl (hb hby d6_33) rfl ?_
    show Steps p.tables e below (s₁.setTop (mkF m 34 #[.val (.int (4 : Int32)), .val (.int (31 : Int32))] [(.int (4 : Int32))])) _
    refine XS.sipush X0.here hx rfl (hb hby d6_34) ?_
    show Steps p.tables e below (s₁.setTop (mkF m 37 #[.val (.int (4 : Int32)), .val (.int (31 : Int32))] [(.int (256 : Int32)), (.int (4 : Int32))])) _
    refine XS.icmpYes X0.here hx rfl (pc0 := 37) (pc' := 48) rfl (hb hby d6_37) rfl (tlt (by decide)).1 (by decide) (by decide) ?_
    show Steps p.tables e below (s₁.setTop (mkF m 48 #[.val (.int (4 : Int32)), .val (.int (31 : Int32))] [])) _
    refine XS.iloadN X0.here hx rfl (hb hby d6_48) rfl ?_
    show Steps p.tables e below (s₁.setTop (mkF m 49 #[.val (.int (4 : Int32)), .val (.int (31 : Int32))] [(.int (4 : Int32))])) _
    refine XS.bipush X0.here hx rfl (hb hby d6_49) ?_
    show Steps p.tables e below (s₁.setTop (mkF m 51 #[.val (.int (4 : Int32)), .val (.int (31 : Int32))] [(.int (16 : Int32)), (.int (4 : Int32))])) _
    refine XS.icmpYes X0.here hx rfl (pc0 := 51) (pc' := 61) rfl (hb hby d6_51) rfl (tlt (by decide)).1 (by decide) (by decide) ?_
    show Steps p.tables e below (s₁.setTop (mkF m 61 #[.val (.int (4 : Int32)), .val (.int (31 : Int32))] [])) _
    refine XS.iloadN X0.here hx rfl (hb hby d6_61) rfl ?_
    show Steps p.tables e below (s₁.setTop (mkF m 62 #[.val (.int (4 : Int32)), .val (.int (31 : Int32))] [(.int (4 : Int32))])) _
    refine XS.iconst X0.here hx rfl (hb hby d6_62) ?_
    show Steps p.tables e below (s₁.setTop (mkF m 63 #[.val (.int (4 : Int32)), .val (.int (31 : Int32))] [(.int (4 : Int32)), (.int (4 : Int32))])) _
    refine XS.icmpNo X0.here hx rfl (hb hby d6_63) rfl (flt (by decide)).1 ?_
    show Steps p.tables e below (s₁.setTop (mkF m 66 #[.val (.int (4 : Int32)), .val (.int (31 : Int32))] [])) _
    refine XS.iinc X0.here hx rfl (hb hby d6_66) rfl (l' := #[.val (.int (4 : Int32)), .val (.int (29 : Int32))]) rfl ?_
    show Steps p.tables e below (s₁.setTop (mkF m 69 #[.val (.int (4 : Int32)), .val (.int (29 : Int32))] [])) _
    refine XS.iloadN X0.here hx rfl (hb hby d6_69) rfl ?_
    show Steps p.tables e below (s₁.setTop (mkF m 70 #[.val (.int (4 : Int32)), .val (.int (29 : Int32))] [(.int (4 : Int32))])) _
    refine XS.iconst X0.here hx rfl (hb hby d6_70) ?_
    show Steps p.tables e below (s₁.setTop (mkF m 71 #[.val (.int (4 : Int32)), .val (.int (29 : Int32))] [(.int (2 : Int32)), (.int (4 : Int32))])) _
    refine XS.iushr X0.here hx rfl (hb hby d6_71) rfl ?_
    show Steps p.tables e below (s₁.setTop (mkF m 72 #[.val (.int (4 : Int32)), .val (.int (29 : Int32))] [(.int (1 : Int32))])) _
    refine XS.istoreN X0.here hx rfl (hb hby d6_72) rfl (l' := #[.val (.int (1 : Int32)), .val (.int (29 : Int32))]) rfl ?_
    show Steps p.tables e below (s₁.setTop (mkF m 73 #[.val (.int (1 : Int32)), .val (.int (29 : Int32))] [])) _
    refine XS.iloadN X0.here hx rfl (hb hby d6_73) rfl ?_
    show Steps p.tables e below (s₁.setTop (mkF m 74 #[.val (.int (1 : Int32)), .val (.int (29 : Int32))] [(.int (29 : Int32))])) _
    refine XS.iloadN X0.here hx rfl (hb hby d6_74) rfl ?_
    show Steps p.tables e below (s₁.setTop (mkF m 75 #[.val (.int (1 : Int32)), .val (.int (29 : Int32))] [(.int (1 : Int32)), (.int (29 : Int32))])) _
    refine XS.iconst X0.here hx rfl (hb hby d6_75) ?_
    show Steps p.tables e below (s₁.setTop (mkF m 76 #[.val (.int (1 : Int32)), .val (.int (29 : Int32))] [(.int (1 : Int32)), (.int (1 : Int32)), (.int (29 : Int32))])) _
    refine XS.iushr X0.here hx rfl (hb hby d6_76) rfl ?_
    show Steps p.tables e below (s₁.setTop (mkF m 77 #[.val (.int (1 : Int32)), .val (.int (29 : Int32))] [(.int (0 : Int32)), (.int (29 : Int32))])) _
    refine XS.isub X0.here hx rfl (hb hby d6_77) rfl ?_
    show Steps p.tables e below (s₁.setTop (mkF m 78 #[.val (.int (1 : Int32)), .val (.int (29 : Int32))] [(.int (29 : Int32))])) _
    exact retI X0 hx Bd.returns (hb hby d6_78) hr
  · show Qrmz4 Z  h0 n0 _ s₁.heap _
    exact ⟨_, rfl, rfl, N0, e0⟩
theorem ef_rmz8 (m : MethodId)  : entryFrame m #[(.int (8 : Int32))] 2 = mkF m 0 #[.val (.int (8 : Int32)), .unset] [] := by first | (simp [entryFrame, mkF, argsToLocals, Value.category]; done) | rfl
def Qrmz8 (Z : State)  (h0 : Heap) (n0 : Nat) (v : Option Value) (h : Heap) (L : List Loc) : Prop := ∃ z : Int32, z = ((28 : Int32)) ∧ v = some (.int z) ∧ Fr n0 L ∧ h = h0
set_option maxRecDepth 65536 in
set_option maxHeartbeats 40000000 in
theorem rmz8 (l : Launch) (Z : State) (a0 : Array Value) (hw : ∀ d ∈ tables_1, d.before a0 Z = true) (ws : List Jvm.Cond)  (h0 : Heap) (n0 : Nat) (Z0 : n0 ≤ h0.size) :
    MetFree l (⟨"java/lang/Integer", "numberOfLeadingZeros", "(I)I"⟩ : MethodName) (head1 (Jvm.Cond.code (⟨"java/lang/Integer", "numberOfLeadingZeros", "(I)I"⟩ : MethodName) jdk_33_method_47_code 2 (some .int) :: ws) ({ frames := 0, cells := 0, slots := 0, locals := 0 } : Room)) (fun a U => a = #[(.int (8 : Int32))] ∧ Z.Warmed39 U.vm ∧ U.heap = h0) (fun _ _ _ _ _ => True) (fun _ U o U' => ∃ v L, o = .returned v ∧ Qrmz8 Z  h0 n0 v U'.heap L ∧ FrameEnd U o U' L ({ frames := 0, cells := 0, slots := 0, locals := 0 } : Room).cells ({ frames := 0, cells := 0, slots := 0, locals := 0 } : Room).slots) := by
  refine MetFree.of_bodySF (plainFor_of_name pn_6) hisR ?_
  intro p e s m args below meth c s₁ Bd hml0 hP hK
  obtain ⟨rfl, hZ, hh⟩ := hP
  have hx := Bd.exec
  have hby := Bd.bytes
  have hml : c.maxLocals = 2 := hml0
  have hown : s.vm.findClass "java/lang/Integer" = some m.cls := findClass_of_methodNamed Bd.named
  have hnm := (name_of_methodNamed Bd.named Bd.method).1
  have X0 : Stand p l e ({ frames := 0, cells := 0, slots := 0, locals := 0 } : Room) s m #[(.int (8 : Int32))] below meth c s₁ [] 0 0 := Stand.of_body Bd
  have e0 : s₁.heap = h0 := by rw [← hh, Bd.state]; rfl
  have N0 := Fr.nil n0
  have pre0 : ∀ t, Steps p.tables e below (s₁.setTop (mkF m 0 #[.val (.int (8 : Int32)), .unset] [])) t → Steps p.tables e below (s₁.setTop (entryFrame m #[(.int (8 : Int32))] 2)) t := fun t k => castTop (ef_rmz8 m ) k
  obtain ⟨fs, hr, hrun, hended, hW, hsame⟩ := X0.leave (v := some (.int (28 : Int32))) (fun h => by rw [Bd.returns] at h; cases h)
  refine ⟨_, _, pre0 _ ?_, hrun, hended, _, _, rfl, ?_, ⟨_, rfl⟩, hW, hsame.mono (by decide) (by decide)⟩
  · show Steps p.tables e below (s₁.setTop (mkF m 0 #[.val (.int (8 : Int32)), .unset] [])) _
    refine XS.iloadN X0.here hx rfl (hb hby d6_0) rfl ?_
    show Steps p.tables e below (s₁.setTop (mkF m 1 #[.val (.int (8 : Int32)), .unset] [(.int (8 : Int32))])) _
    refine XS.ifYes X0.here hx rfl (pc0 := 1) (pc' := 15) rfl (hb hby d6_1) rfl ((if0 _ _).trans (tlt (by decide)).2.2.1) (by decide) (by decide) ?_
    show Steps p.tables e below (s₁.setTop (mkF m 15 #[.val (.int (8 : Int32)), .unset] [])) _
    refine XS.bipush X0.here hx rfl (hb hby d6_15) ?_
    show Steps p.tables e below (s₁.setTop (mkF m 17 #[.val (.int (8 : Int32)), .unset] [(.int (31 : Int32))])) _
    refine XS.istoreN X0.here hx rfl (hb hby d6_17) rfl (l' := #[.val (.int (8 : Int32)), .val (.int (31 : Int32))]) rfl ?_
    show Steps p.tables e below (s₁.setTop (mkF m 18 #[.val (.int (8 : Int32)), .val (.int (31 : Int32))] [])) _
    refine XS.iloadN X0.here hx rfl (hb hby d6_18) rfl ?_
    show Steps p.tables e below (s₁.setTop (mkF m 19 #[.val (.int (8 : Int32)), .val (.int (31 : Int32))] [(.int (8 : Int32))])) _
    refine X0.ldcwInt hx hown (mvT hZ (hw _ (List.mem_of_getElem? (i := 30) rfl))) (g := (mkF m 19 #[.val (.int (8 : Int32)), .val (.int (31 : Int32))] [(.int (8 : Int32))])) rfl (hb hby d6_19) _ ?_
    show Steps p.tables e below (s₁.setTop (mkF m 22 #[.val (.int (8 : Int32)), .val (.int (31 : Int32))] [(.int (65536 : Int32)), (.int (8 : Int32))])) _
    refine XS.icmpYes X0.here hx rfl (pc0 := 22) (pc' := 33) rfl (hb hby d6_22) rfl (tlt (by decide)).1 (by decide) (by decide) ?_
    show Steps p.tables e below (s₁.setTop (mkF m 33 #[.val (.int (8 : Int32)), .val (.int (31 : Int32))] [])) _
    refine XS.iloadN X0.here hx rfl (hb hby d6_33) rfl ?_
    show Steps p.tables e below (s₁.setTop (mkF m 34 #[.val (.int (8 : Int32)), .val (.int (31 : Int32))] [(.int (8 : Int32))])) _
    refine XS.sipush X0.here hx rfl (hb hby d6_34) ?_
    show Steps p.tables e below (s₁.setTop (mkF m 37 #[.val (.int (8 : Int32)), .val (.int (31 : Int32))] [(.int (256 : Int32)), (.int (8 : Int32))])) _
    refine XS.icmpYes X0.here hx rfl (pc0 := 37) (pc' := 48) rfl (hb hby d6_37) rfl (tlt (by decide)).1 (by decide) (by decide) ?_
    show Steps p.tables e below (s₁.setTop (mkF m 48 #[.val (.int (8 : Int32)), .val (.int (31 : Int32))] [])) _
    refine XS.iloadN X0.here hx rfl (hb hby d6_48) rfl ?_
    show Steps p.tables e below (s₁.setTop (mkF m 49 #[.val (.int (8 : Int32)), .val (.int (31 : Int32))] [(.int (8 : Int32))])) _
    refine XS.bipush X0.here hx rfl (hb hby d6_49) ?_
    show Steps p.tables e below (s₁.setTop (mkF m 51 #[.val (.int (8 : Int32)), .val (.int (31 : Int32))] [(.int (16 : Int32)), (.int (8 : Int32))])) _
    refine XS.icmpYes X0.here hx rfl (pc0 := 51) (pc' := 61) rfl (hb hby d6_51) rfl (tlt (by decide)).1 (by decide) (by decide) ?_
    show Steps p.tables e below (s₁.setTop (mkF m 61 #[.val (.int (8 : Int32)), .val (.int (31 : Int32))] [])) _
    refine XS.iloadN X0.here hx rfl (hb hby d6_61) rfl ?_
    show Steps p.tables e below (s₁.setTop (mkF m 62 #[.val (.int (8 : Int32)), .val (.int (31 : Int32))] [(.int (8 : Int32))])) _
    refine XS.iconst X0.here hx rfl (hb hby d6_62) ?_
    show Steps p.tables e below (s₁.setTop (mkF m 63 #[.val (.int (8 : Int32)), .val (.int (31 : Int32))] [(.int (4 : Int32)), (.int (8 : Int32))])) _
    refine XS.icmpNo X0.here hx rfl (hb hby d6_63) rfl (flt (by decide)).1 ?_
    show Steps p.tables e below (s₁.setTop (mkF m 66 #[.val (.int (8 : Int32)), .val (.int (31 : Int32))] [])) _
    refine XS.iinc X0.here hx rfl (hb hby d6_66) rfl (l' := #[.val (.int (8 : Int32)), .val (.int (29 : Int32))]) rfl ?_
    show Steps p.tables e below (s₁.setTop (mkF m 69 #[.val (.int (8 : Int32)), .val (.int (29 : Int32))] [])) _
    refine XS.iloadN X0.here hx rfl (hb hby d6_69) rfl ?_
    show Steps p.tables e below (s₁.setTop (mkF m 70 #[.val (.int (8 : Int32)), .val (.int (29 : Int32))] [(.int (8 : Int32))])) _
    refine XS.iconst X0.here hx rfl (hb hby d6_70) ?_
    show Steps p.tables e below (s₁.setTop (mkF m 71 #[.val (.int (8 : Int32)), .val (.int (29 : Int32))] [(.int (2 : Int32)), (.int (8 : Int32))])) _
    refine XS.iushr X0.here hx rfl (hb hby d6_71) rfl ?_
    show Steps p.tables e below (s₁.setTop (mkF m 72 #[.val (.int (8 : Int32)), .val (.int (29 : Int32))] [(.int (2 : Int32))])) _
    refine XS.istoreN X0.here hx rfl (hb hby d6_72) rfl (l' := #[.val (.int (2 : Int32)), .val (.int (29 : Int32))]) rfl ?_
    show Steps p.tables e below (s₁.setTop (mkF m 73 #[.val (.int (2 : Int32)), .val (.int (29 : Int32))] [])) _
    refine XS.iloadN X0.here hx rfl (hb hby d6_73) rfl ?_
    show Steps p.tables e below (s₁.setTop (mkF m 74 #[.val (.int (2 : Int32)), .val (.int (29 : Int32))] [(.int (29 : Int32))])) _
    refine XS.iloadN X0.here hx rfl (hb hby d6_74) rfl ?_
    show Steps p.tables e below (s₁.setTop (mkF m 75 #[.val (.int (2 : Int32)), .val (.int (29 : Int32))] [(.int (2 : Int32)), (.int (29 : Int32))])) _
    refine XS.iconst X0.here hx rfl (hb hby d6_75) ?_
    show Steps p.tables e below (s₁.setTop (mkF m 76 #[.val (.int (2 : Int32)), .val (.int (29 : Int32))] [(.int (1 : Int32)), (.int (2 : Int32)), (.int (29 : Int32))])) _
    refine XS.iushr X0.here hx rfl (hb hby d6_76) rfl ?_
    show Steps p.tables e below (s₁.setTop (mkF m 77 #[.val (.int (2 : Int32)), .val (.int (29 : Int32))] [(.int (1 : Int32)), (.int (29 : Int32))])) _
    refine XS.isub X0.here hx rfl (hb hby d6_77) rfl ?_
    show Steps p.tables e below (s₁.setTop (mkF m 78 #[.val (.int (2 : Int32)), .val (.int (29 : Int32))] [(.int (28 : Int32))])) _
    exact retI X0 hx Bd.returns (hb hby d6_78) hr
  · show Qrmz8 Z  h0 n0 _ s₁.heap _
    exact ⟨_, rfl, rfl, N0, e0⟩
theorem pd_0 : parseMethodDescriptor "(I)I" = some ⟨[.int], some .int⟩ := by decide +kernel
theorem d5_0 : decode jdk_35_method_48_code 0 = .ok (.lload_n 0, 1) := by decide +kernel
theorem d5_1 : decode jdk_35_method_48_code 1 = .ok (.bipush 32, 2) := by decide +kernel
theorem d5_3 : decode jdk_35_method_48_code 3 = .ok (.lushr, 1) := by decide +kernel
theorem d5_4 : decode jdk_35_method_48_code 4 = .ok (.l2i, 1) := by decide +kernel
theorem d5_5 : decode jdk_35_method_48_code 5 = .ok (.istore_n 2, 1) := by decide +kernel
theorem d5_6 : decode jdk_35_method_48_code 6 = .ok (.iload_n 2, 1) := by decide +kernel
theorem d5_7 : decode jdk_35_method_48_code 7 = .ok (.ifCond .ne 14, 3) := by decide +kernel
theorem d5_10 : decode jdk_35_method_48_code 10 = .ok (.bipush 32, 2) := by decide +kernel
theorem d5_12 : decode jdk_35_method_48_code 12 = .ok (.lload_n 0, 1) := by decide +kernel
theorem d5_13 : decode jdk_35_method_48_code 13 = .ok (.l2i, 1) := by decide +kernel
theorem d5_14 : decode jdk_35_method_48_code 14 = .ok (.invokestatic 308, 3) := by decide +kernel
theorem d5_17 : decode jdk_35_method_48_code 17 = .ok (.iadd, 1) := by decide +kernel
theorem d5_18 : decode jdk_35_method_48_code 18 = .ok (.goto 7, 3) := by decide +kernel
theorem d5_25 : decode jdk_35_method_48_code 25 = .ok (.ireturn, 1) := by decide +kernel
theorem pn_5 : plainName "java/lang/Long" = true := by first | (simp [plainName, overriddenIn]; done) | decide +kernel
theorem ef_rmZ4 (m : MethodId)  : entryFrame m #[(.long (4 : Int64))] 3 = mkF m 0 #[.val (.long (4 : Int64)), .second, .unset] [] := by first | (simp [entryFrame, mkF, argsToLocals, Value.category]; done) | rfl
def QrmZ4 (Z : State)  (h0 : Heap) (n0 : Nat) (v : Option Value) (h : Heap) (L : List Loc) : Prop := ∃ z : Int32, z = ((61 : Int32)) ∧ v = some (.int z) ∧ Fr n0 L ∧ h = h0
set_option maxRecDepth 65536 in
set_option maxHeartbeats 40000000 in
theorem rmZ4 (l : Launch) (Z : State) (a0 : Array Value) (hw : ∀ d ∈ tables_1, d.before a0 Z = true) (ws : List Jvm.Cond)  (h0 : Heap) (n0 : Nat) (Z0 : n0 ≤ h0.size) :
    MetFree l (⟨"java/lang/Long", "numberOfLeadingZeros", "(J)I"⟩ : MethodName) (head1 (Jvm.Cond.code (⟨"java/lang/Long", "numberOfLeadingZeros", "(J)I"⟩ : MethodName) jdk_35_method_48_code 3 (some .int) :: ws) ({ frames := 1, cells := 0, slots := 0, locals := 14 } : Room)) (fun a U => a = #[(.long (4 : Int64))] ∧ Z.Warmed39 U.vm ∧ U.heap = h0) (fun _ _ _ _ _ => True) (fun _ U o U' => ∃ v L, o = .returned v ∧ QrmZ4 Z  h0 n0 v U'.heap L ∧ FrameEnd U o U' L ({ frames := 1, cells := 0, slots := 0, locals := 14 } : Room).cells ({ frames := 1, cells := 0, slots := 0, locals := 14 } : Room).slots) := by
  refine MetFree.of_bodySF (plainFor_of_name pn_5) hisR ?_
  intro p e s m args below meth c s₁ Bd hml0 hP hK
  obtain ⟨rfl, hZ, hh⟩ := hP
  have hx := Bd.exec
  have hby := Bd.bytes
  have hml : c.maxLocals = 3 := hml0
  have hown : s.vm.findClass "java/lang/Long" = some m.cls := findClass_of_methodNamed Bd.named
  have hnm := (name_of_methodNamed Bd.named Bd.method).1
  have X0 : Stand p l e ({ frames := 1, cells := 0, slots := 0, locals := 14 } : Room) s m #[(.long (4 : Int64))] below meth c s₁ [] 0 0 := Stand.of_body Bd
  have e0 : s₁.heap = h0 := by rw [← hh, Bd.state]; rfl
  have N0 := Fr.nil n0
  have pre0 : ∀ t, Steps p.tables e below (s₁.setTop (mkF m 0 #[.val (.long (4 : Int64)), .second, .unset] [])) t → Steps p.tables e below (s₁.setTop (entryFrame m #[(.long (4 : Int64))] 3)) t := fun t k => castTop (ef_rmZ4 m ) k
  obtain ⟨_, _, ⟨T1, L1, k1, n1⟩, -, X1, ⟨Lc1, hQ1, l1, y1, z1⟩, st1⟩ := Jvm.LawKit.callS X0 hx (y := (⟨"java/lang/Integer", "numberOfLeadingZeros", "(I)I"⟩ : MethodName)) hown (mvT hZ (hw _ (List.mem_of_getElem? (i := 26) rfl))) (mvT hZ (hw _ (List.mem_of_getElem? (i := 27) rfl))) (mvT hZ (hw _ (List.mem_of_getElem? (i := 28) rfl))) (mvT hZ (hw _ (List.mem_of_getElem? (i := 29) rfl))) (by decide) (backOf (W := 1) (rmz4 l Z a0 hw []   h0 n0 Z0 ) hZ (hw _ (List.mem_of_getElem? (i := 29) rfl)) (hw _ (List.mem_of_getElem? (i := 28) rfl)) (by decide) (by decide)) (g := (mkF m 14 #[.val (.long (4 : Int64)), .second, .val (.int (0 : Int32))] [(.int (4 : Int32)), (.int (32 : Int32))])) rfl (by rw [hml]; rfl) (argsL := [(.int (4 : Int32))]) (rest := [(.int (32 : Int32))]) (lenOf pd_0 rfl) rfl (by show 2 * 0 + _ ≤ _; exact Nat.le_of_eq rfl) (hb hby d5_14) (fun _ _ => ⟨rfl, e0, (by decide : 0 + 0 ≤ _), (by decide : 0 + 0 ≤ _)⟩)
  dsimp only [Pt.U, Pt.locs, Pt.cells, Pt.slots] at X1 l1 y1 z1 st1 hQ1
  subst l1 y1 z1
  obtain ⟨r1, hr1, rfl, N1q, e1⟩ := hQ1
  have N1 := Fr.app N0 N1q
  subst hr1
  obtain ⟨fs, hr, hrun, hended, hW, hsame⟩ := X1.leave (v := some (.int (61 : Int32))) (fun h => by rw [Bd.returns] at h; cases h)
  refine ⟨_, _, pre0 _ ?_, hrun, hended, _, _, rfl, ?_, ⟨_, rfl⟩, hW, hsame.mono (by decide) (by decide)⟩
  · show Steps p.tables e below (s₁.setTop (mkF m 0 #[.val (.long (4 : Int64)), .second, .unset] [])) _
    refine XS.lloadN X0.here hx rfl (hb hby d5_0) rfl ?_
    show Steps p.tables e below (s₁.setTop (mkF m 1 #[.val (.long (4 : Int64)), .second, .unset] [(.long (4 : Int64))])) _
    refine XS.bipush X0.here hx rfl (hb hby d5_1) ?_
    show Steps p.tables e below (s₁.setTop (mkF m 3 #[.val (.long (4 : Int64)), .second, .unset] [(.int (32 : Int32)), (.long (4 : Int64))])) _
    refine XS.lushr X0.here hx rfl (hb hby d5_3) rfl ?_
    show Steps p.tables e below (s₁.setTop (mkF m 4 #[.val (.long (4 : Int64)), .second, .unset] [(.long (0 : Int64))])) _
    refine XS.l2i X0.here hx rfl (hb hby d5_4) rfl ?_
    show Steps p.tables e below (s₁.setTop (mkF m 5 #[.val (.long (4 : Int64)), .second, .unset] [(.int (0 : Int32))])) _
    refine XS.istoreN X0.here hx rfl (hb hby d5_5) rfl (l' := #[.val (.long (4 : Int64)), .second, .val (.int (0 : Int32))]) rfl ?_
    show Steps p.tables e below (s₁.setTop (mkF m 6 #[.val (.long (4 : Int64)), .second, .val (.int (0 : Int32))] [])) _
    refine XS.iloadN X0.here hx rfl (hb hby d5_6) rfl ?_
    show Steps p.tables e below (s₁.setTop (mkF m 7 #[.val (.long (4 : Int64)), .second, .val (.int (0 : Int32))] [(.int (0 : Int32))])) _
    refine XS.ifNo X0.here hx rfl (hb hby d5_7) rfl ((if0 _ _).trans (teq (by decide)).2) ?_
    show Steps p.tables e below (s₁.setTop (mkF m 10 #[.val (.long (4 : Int64)), .second, .val (.int (0 : Int32))] [])) _
    refine XS.bipush X0.here hx rfl (hb hby d5_10) ?_
    show Steps p.tables e below (s₁.setTop (mkF m 12 #[.val (.long (4 : Int64)), .second, .val (.int (0 : Int32))] [(.int (32 : Int32))])) _
    refine XS.lloadN X0.here hx rfl (hb hby d5_12) rfl ?_
    show Steps p.tables e below (s₁.setTop (mkF m 13 #[.val (.long (4 : Int64)), .second, .val (.int (0 : Int32))] [(.long (4 : Int64)), (.int (32 : Int32))])) _
    refine XS.l2i X0.here hx rfl (hb hby d5_13) rfl ?_
    show Steps p.tables e below (s₁.setTop (mkF m 14 #[.val (.long (4 : Int64)), .second, .val (.int (0 : Int32))] [(.int (4 : Int32)), (.int (32 : Int32))])) _
    refine st1 _ ?_
    show Steps p.tables e below (T1.setTop (mkF m 17 #[.val (.long (4 : Int64)), .second, .val (.int (0 : Int32))] [(.int (29 : Int32)), (.int (32 : Int32))])) _
    refine XS.iadd X1.here hx rfl (hb hby d5_17) rfl ?_
    show Steps p.tables e below (T1.setTop (mkF m 18 #[.val (.long (4 : Int64)), .second, .val (.int (0 : Int32))] [(.int (61 : Int32))])) _
    refine XS.goto X1.here hx rfl (pc0 := 18) (pc' := 25) rfl (hb hby d5_18) (by decide) (by decide) ?_
    show Steps p.tables e below (T1.setTop (mkF m 25 #[.val (.long (4 : Int64)), .second, .val (.int (0 : Int32))] [(.int (61 : Int32))])) _
    exact retI X1 hx Bd.returns (hb hby d5_25) hr
  · show QrmZ4 Z  h0 n0 _ T1.heap _
    exact ⟨_, rfl, rfl, N1, e1⟩
theorem ef_rmZ8 (m : MethodId)  : entryFrame m #[(.long (8 : Int64))] 3 = mkF m 0 #[.val (.long (8 : Int64)), .second, .unset] [] := by first | (simp [entryFrame, mkF, argsToLocals, Value.category]; done) | rfl
def QrmZ8 (Z : State)  (h0 : Heap) (n0 : Nat) (v : Option Value) (h : Heap) (L : List Loc) : Prop := ∃ z : Int32, z = ((60 : Int32)) ∧ v = some (.int z) ∧ Fr n0 L ∧ h = h0
set_option maxRecDepth 65536 in
set_option maxHeartbeats 40000000 in
theorem rmZ8 (l : Launch) (Z : State) (a0 : Array Value) (hw : ∀ d ∈ tables_1, d.before a0 Z = true) (ws : List Jvm.Cond)  (h0 : Heap) (n0 : Nat) (Z0 : n0 ≤ h0.size) :
    MetFree l (⟨"java/lang/Long", "numberOfLeadingZeros", "(J)I"⟩ : MethodName) (head1 (Jvm.Cond.code (⟨"java/lang/Long", "numberOfLeadingZeros", "(J)I"⟩ : MethodName) jdk_35_method_48_code 3 (some .int) :: ws) ({ frames := 1, cells := 0, slots := 0, locals := 14 } : Room)) (fun a U => a = #[(.long (8 : Int64))] ∧ Z.Warmed39 U.vm ∧ U.heap = h0) (fun _ _ _ _ _ => True) (fun _ U o U' => ∃ v L, o = .returned v ∧ QrmZ8 Z  h0 n0 v U'.heap L ∧ FrameEnd U o U' L ({ frames := 1, cells := 0, slots := 0, locals := 14 } : Room).cells ({ frames := 1, cells := 0, slots := 0, locals := 14 } : Room).slots) := by
  refine MetFree.of_bodySF (plainFor_of_name pn_5) hisR ?_
  intro p e s m args below meth c s₁ Bd hml0 hP hK
  obtain ⟨rfl, hZ, hh⟩ := hP
  have hx := Bd.exec
  have hby := Bd.bytes
  have hml : c.maxLocals = 3 := hml0
  have hown : s.vm.findClass "java/lang/Long" = some m.cls := findClass_of_methodNamed Bd.named
  have hnm := (name_of_methodNamed Bd.named Bd.method).1
  have X0 : Stand p l e ({ frames := 1, cells := 0, slots := 0, locals := 14 } : Room) s m #[(.long (8 : Int64))] below meth c s₁ [] 0 0 := Stand.of_body Bd
  have e0 : s₁.heap = h0 := by rw [← hh, Bd.state]; rfl
  have N0 := Fr.nil n0
  have pre0 : ∀ t, Steps p.tables e below (s₁.setTop (mkF m 0 #[.val (.long (8 : Int64)), .second, .unset] [])) t → Steps p.tables e below (s₁.setTop (entryFrame m #[(.long (8 : Int64))] 3)) t := fun t k => castTop (ef_rmZ8 m ) k
  obtain ⟨_, _, ⟨T1, L1, k1, n1⟩, -, X1, ⟨Lc1, hQ1, l1, y1, z1⟩, st1⟩ := Jvm.LawKit.callS X0 hx (y := (⟨"java/lang/Integer", "numberOfLeadingZeros", "(I)I"⟩ : MethodName)) hown (mvT hZ (hw _ (List.mem_of_getElem? (i := 26) rfl))) (mvT hZ (hw _ (List.mem_of_getElem? (i := 27) rfl))) (mvT hZ (hw _ (List.mem_of_getElem? (i := 28) rfl))) (mvT hZ (hw _ (List.mem_of_getElem? (i := 29) rfl))) (by decide) (backOf (W := 1) (rmz8 l Z a0 hw []   h0 n0 Z0 ) hZ (hw _ (List.mem_of_getElem? (i := 29) rfl)) (hw _ (List.mem_of_getElem? (i := 28) rfl)) (by decide) (by decide)) (g := (mkF m 14 #[.val (.long (8 : Int64)), .second, .val (.int (0 : Int32))] [(.int (8 : Int32)), (.int (32 : Int32))])) rfl (by rw [hml]; rfl) (argsL := [(.int (8 : Int32))]) (rest := [(.int (32 : Int32))]) (lenOf pd_0 rfl) rfl (by show 2 * 0 + _ ≤ _; exact Nat.le_of_eq rfl) (hb hby d5_14) (fun _ _ => ⟨rfl, e0, (by decide : 0 + 0 ≤ _), (by decide : 0 + 0 ≤ _)⟩)
  dsimp only [Pt.U, Pt.locs, Pt.cells, Pt.slots] at X1 l1 y1 z1 st1 hQ1
  subst l1 y1 z1
  obtain ⟨r1, hr1, rfl, N1q, e1⟩ := hQ1
  have N1 := Fr.app N0 N1q
  subst hr1
  obtain ⟨fs, hr, hrun, hended, hW, hsame⟩ := X1.leave (v := some (.int (60 : Int32))) (fun h => by rw [Bd.returns] at h; cases h)
  refine ⟨_, _, pre0 _ ?_, hrun, hended, _, _, rfl, ?_, ⟨_, rfl⟩, hW, hsame.mono (by decide) (by decide)⟩
  · show Steps p.tables e below (s₁.setTop (mkF m 0 #[.val (.long (8 : Int64)), .second, .unset] [])) _
    refine XS.lloadN X0.here hx rfl (hb hby d5_0) rfl ?_
    show Steps p.tables e below (s₁.setTop (mkF m 1 #[.val (.long (8 : Int64)), .second, .unset] [(.long (8 : Int64))])) _
    refine XS.bipush X0.here hx rfl (hb hby d5_1) ?_
    show Steps p.tables e below (s₁.setTop (mkF m 3 #[.val (.long (8 : Int64)), .second, .unset] [(.int (32 : Int32)), (.long (8 : Int64))])) _
    refine XS.lushr X0.here hx rfl (hb hby d5_3) rfl ?_
    show Steps p.tables e below (s₁.setTop (mkF m 4 #[.val (.long (8 : Int64)), .second, .unset] [(.long (0 : Int64))])) _
    refine XS.l2i X0.here hx rfl (hb hby d5_4) rfl ?_
    show Steps p.tables e below (s₁.setTop (mkF m 5 #[.val (.long (8 : Int64)), .second, .unset] [(.int (0 : Int32))])) _
    refine XS.istoreN X0.here hx rfl (hb hby d5_5) rfl (l' := #[.val (.long (8 : Int64)), .second, .val (.int (0 : Int32))]) rfl ?_
    show Steps p.tables e below (s₁.setTop (mkF m 6 #[.val (.long (8 : Int64)), .second, .val (.int (0 : Int32))] [])) _
    refine XS.iloadN X0.here hx rfl (hb hby d5_6) rfl ?_
    show Steps p.tables e below (s₁.setTop (mkF m 7 #[.val (.long (8 : Int64)), .second, .val (.int (0 : Int32))] [(.int (0 : Int32))])) _
    refine XS.ifNo X0.here hx rfl (hb hby d5_7) rfl ((if0 _ _).trans (teq (by decide)).2) ?_
    show Steps p.tables e below (s₁.setTop (mkF m 10 #[.val (.long (8 : Int64)), .second, .val (.int (0 : Int32))] [])) _
    refine XS.bipush X0.here hx rfl (hb hby d5_10) ?_
    show Steps p.tables e below (s₁.setTop (mkF m 12 #[.val (.long (8 : Int64)), .second, .val (.int (0 : Int32))] [(.int (32 : Int32))])) _
    refine XS.lloadN X0.here hx rfl (hb hby d5_12) rfl ?_
    show Steps p.tables e below (s₁.setTop (mkF m 13 #[.val (.long (8 : Int64)), .second, .val (.int (0 : Int32))] [(.long (8 : Int64)), (.int (32 : Int32))])) _
    refine XS.l2i X0.here hx rfl (hb hby d5_13) rfl ?_
    show Steps p.tables e below (s₁.setTop (mkF m 14 #[.val (.long (8 : Int64)), .second, .val (.int (0 : Int32))] [(.int (8 : Int32)), (.int (32 : Int32))])) _
    refine st1 _ ?_
    show Steps p.tables e below (T1.setTop (mkF m 17 #[.val (.long (8 : Int64)), .second, .val (.int (0 : Int32))] [(.int (28 : Int32)), (.int (32 : Int32))])) _
    refine XS.iadd X1.here hx rfl (hb hby d5_17) rfl ?_
    show Steps p.tables e below (T1.setTop (mkF m 18 #[.val (.long (8 : Int64)), .second, .val (.int (0 : Int32))] [(.int (60 : Int32))])) _
    refine XS.goto X1.here hx rfl (pc0 := 18) (pc' := 25) rfl (hb hby d5_18) (by decide) (by decide) ?_
    show Steps p.tables e below (T1.setTop (mkF m 25 #[.val (.long (8 : Int64)), .second, .val (.int (0 : Int32))] [(.int (60 : Int32))])) _
    exact retI X1 hx Bd.returns (hb hby d5_25) hr
  · show QrmZ8 Z  h0 n0 _ T1.heap _
    exact ⟨_, rfl, rfl, N1, e1⟩
theorem pd_1 : parseMethodDescriptor "(J)I" = some ⟨[.long], some .int⟩ := by decide +kernel
theorem d3_0 : decode prog_19_method_2_code 0 = .ok (.aload_n 0, 1) := by decide +kernel
theorem d3_1 : decode prog_19_method_2_code 1 = .ok (.invokespecial 9, 3) := by decide +kernel
theorem d3_4 : decode prog_19_method_2_code 4 = .ok (.aload_n 0, 1) := by decide +kernel
theorem d3_5 : decode prog_19_method_2_code 5 = .ok (.iconst 2, 1) := by decide +kernel
theorem d3_6 : decode prog_19_method_2_code 6 = .ok (.iload_n 1, 1) := by decide +kernel
theorem d3_7 : decode prog_19_method_2_code 7 = .ok (.imul, 1) := by decide +kernel
theorem d3_8 : decode prog_19_method_2_code 8 = .ok (.newarray .long, 2) := by decide +kernel
theorem d3_10 : decode prog_19_method_2_code 10 = .ok (.putfield 14, 3) := by decide +kernel
theorem d3_13 : decode prog_19_method_2_code 13 = .ok (.iconst 0, 1) := by decide +kernel
theorem d3_14 : decode prog_19_method_2_code 14 = .ok (.istore_n 2, 1) := by decide +kernel
theorem d3_15 : decode prog_19_method_2_code 15 = .ok (.iload_n 2, 1) := by decide +kernel
theorem d3_16 : decode prog_19_method_2_code 16 = .ok (.aload_n 0, 1) := by decide +kernel
theorem d3_17 : decode prog_19_method_2_code 17 = .ok (.getfield 14, 3) := by decide +kernel
theorem d3_20 : decode prog_19_method_2_code 20 = .ok (.arraylength, 1) := by decide +kernel
theorem d3_21 : decode prog_19_method_2_code 21 = .ok (.if_icmp .ge 18, 3) := by decide +kernel
theorem d3_24 : decode prog_19_method_2_code 24 = .ok (.aload_n 0, 1) := by decide +kernel
theorem d3_25 : decode prog_19_method_2_code 25 = .ok (.getfield 14, 3) := by decide +kernel
theorem d3_28 : decode prog_19_method_2_code 28 = .ok (.iload_n 2, 1) := by decide +kernel
theorem d3_29 : decode prog_19_method_2_code 29 = .ok (.ldc2_w 18, 3) := by decide +kernel
theorem d3_32 : decode prog_19_method_2_code 32 = .ok (.lastore, 1) := by decide +kernel
theorem d3_33 : decode prog_19_method_2_code 33 = .ok (.iinc 2 2, 3) := by decide +kernel
theorem d3_36 : decode prog_19_method_2_code 36 = .ok (.goto (-21), 3) := by decide +kernel
theorem d3_39 : decode prog_19_method_2_code 39 = .ok (.aload_n 0, 1) := by decide +kernel
theorem d3_40 : decode prog_19_method_2_code 40 = .ok (.iload_n 1, 1) := by decide +kernel
theorem d3_41 : decode prog_19_method_2_code 41 = .ok (.i2l, 1) := by decide +kernel
theorem d3_42 : decode prog_19_method_2_code 42 = .ok (.invokestatic 20, 3) := by decide +kernel
theorem d3_45 : decode prog_19_method_2_code 45 = .ok (.iconst 1, 1) := by decide +kernel
theorem d3_46 : decode prog_19_method_2_code 46 = .ok (.iadd, 1) := by decide +kernel
theorem d3_47 : decode prog_19_method_2_code 47 = .ok (.putfield 24, 3) := by decide +kernel
theorem d3_50 : decode prog_19_method_2_code 50 = .ok (.return_, 1) := by decide +kernel
theorem pn_3 : plainName "com/example/pricewright/pricewright/core/LongSumTable" = true := by first | (simp [plainName, overriddenIn]; done) | decide +kernel
theorem ef_rmI4 (m : MethodId) (a1 : Addr) : entryFrame m #[(.ref a1), (.int (4 : Int32))] 3 = mkF m 0 #[.val (.ref a1), .val (.int (4 : Int32)), .unset] [] := by first | (simp [entryFrame, mkF, argsToLocals, Value.category]; done) | rfl
def QrmI4 (Z : State) (a1 : Addr) (h0 : Heap) (n0 : Nat) (v : Option Value) (h : Heap) (L : List Loc) : Prop := v = none ∧ Fr n0 L ∧ Keep h0 h [a1] ∧ ∃ (sa : Addr) (sk : ClassId), n0 ≤ sa ∧ h0.size ≤ sa ∧ Exa Z h a1 "com/example/pricewright/pricewright/core/LongSumTable" ∧ Fld Z h a1 "com/example/pricewright/pricewright/core/LongSumTable" "slots" "[J" (.ref sa) ∧ Fld Z h a1 "com/example/pricewright/pricewright/core/LongSumTable" "shift" "I" (.int (62 : Int32)) ∧ Fld Z h a1 "com/example/pricewright/pricewright/core/LongSumTable" "size" "I" (.int (0 : Int32)) ∧ Fld Z h a1 "com/example/pricewright/pricewright/core/LongSumTable" "sorted" "[J" .null ∧ Arv Z h sa sk .long (8 : Int32) (own_new4.map Value.long) (.long (0 : Int64))
set_option maxRecDepth 65536 in
set_option maxHeartbeats 40000000 in
theorem rmI4 (l : Launch) (Z : State) (a0 : Array Value) (hw : ∀ d ∈ tables_1, d.before a0 Z = true) (ws : List Jvm.Cond) (a1 : Addr) (h0 : Heap) (n0 : Nat) (Z0 : n0 ≤ h0.size) (E : Exa Z h0 a1 "com/example/pricewright/pricewright/core/LongSumTable") (F_slots : Fld Z h0 a1 "com/example/pricewright/pricewright/core/LongSumTable" "slots" "[J" .null) (F_shift : Fld Z h0 a1 "com/example/pricewright/pricewright/core/LongSumTable" "shift" "I" (.int (0 : Int32))) (F_size : Fld Z h0 a1 "com/example/pricewright/pricewright/core/LongSumTable" "size" "I" (.int (0 : Int32))) (F_sorted : Fld Z h0 a1 "com/example/pricewright/pricewright/core/LongSumTable" "sorted" "[J" .null) (ga : n0 ≤ a1) :
    MetFree l (⟨"com/example/pricewright/pricewright/core/LongSumTable", "<init>", "(I)V"⟩ : MethodName) (head1 (Jvm.Cond.code (⟨"com/example/pricewright/pricewright/core/LongSumTable", "<init>", "(I)V"⟩ : MethodName) prog_19_method_2_code 3 none :: ws) ({ frames := 2, cells := 1, slots := 8, locals := 29 } : Room)) (fun a U => a = #[(.ref a1), (.int (4 : Int32))] ∧ Z.Warmed39 U.vm ∧ U.heap = h0) (fun _ _ _ _ _ => True) (fun _ U o U' => ∃ v L, o = .returned v ∧ QrmI4 Z a1 h0 n0 v U'.heap L ∧ FrameEnd U o U' L ({ frames := 2, cells := 1, slots := 8, locals := 29 } : Room).cells ({ frames := 2, cells := 1, slots := 8, locals := 29 } : Room).slots) := by
  refine MetFree.of_bodySF (plainFor_of_name pn_3) hisR ?_
  intro p e s m args below meth c s₁ Bd hml0 hP hK
  obtain ⟨rfl, hZ, hh⟩ := hP
  have hx := Bd.exec
  have hby := Bd.bytes
  have hml : c.maxLocals = 3 := hml0
  have hown : s.vm.findClass "com/example/pricewright/pricewright/core/LongSumTable" = some m.cls := findClass_of_methodNamed Bd.named
  have hnm := (name_of_methodNamed Bd.named Bd.method).1
  have X0 : Stand p l e ({ frames := 2, cells := 1, slots := 8, locals := 29 } : Room) s m #[(.ref a1), (.int (4 : Int32))] below meth c s₁ [] 0 0 := Stand.of_body Bd
  have e0 : s₁.heap = h0 := by rw [← hh, Bd.state]; rfl
  have N0 := Fr.nil n0
  have pre0 : ∀ t, Steps p.tables e below (s₁.setTop (mkF m 0 #[.val (.ref a1), .val (.int (4 : Int32)), .unset] [])) t → Steps p.tables e below (s₁.setTop (entryFrame m #[(.ref a1), (.int (4 : Int32))] 3)) t := fun t k => castTop (ef_rmI4 m a1) k
  obtain ⟨T1, X1, e1, st1⟩ := initO X0 hx hZ hown (hw _ (List.mem_of_getElem? (i := 15) rfl)) (hw _ (List.mem_of_getElem? (i := 16) rfl)) (hw _ (List.mem_of_getElem? (i := 17) rfl)) e0 (g := (mkF m 1 #[.val (.ref a1), .val (.int (4 : Int32)), .unset] [(.ref a1)])) rfl (by rw [hml]; rfl) rfl (hb hby d3_1) (by decide) (W := 0) (by show 2 * 0 + _ ≤ _; exact Nat.le_of_eq rfl) (by decide)
  obtain ⟨T2, h2, k2, X2, e2, E2, A2, st2⟩ := newP X1 hx hZ (hw _ (List.mem_of_getElem? (i := 18) rfl)) e1 (g := (mkF m 8 #[.val (.ref a1), .val (.int (4 : Int32)), .unset] [(.int (8 : Int32)), (.ref a1)])) rfl (hb hby d3_8) rfl (by decide) (cap := 8) (by decide) (by decide) (by decide) (by decide)
  obtain ⟨b2o, g2⟩ : ∃ z, z = h0.size := ⟨_, rfl⟩
  have b2 : n0 ≤ b2o := Nat.le_trans Z0 (Nat.le_of_eq g2.symm)
  have bk2 : h0.size ≤ b2o := Nat.le_trans (Keep.refl h0 [a1]).1 (Nat.le_of_eq g2.symm)
  have ne3 : a1 ≠ b2o := Nat.ne_of_lt (Nat.lt_of_lt_of_le E.lt (Nat.le_of_eq g2.symm))
  rw [← g2] at A2 st2
  have Z2 : n0 ≤ h2.size := Nat.le_trans Z0 E2.1
  have K2 : Keep h0 h2 [a1] := (Keep.refl h0 [a1]).ext E2
  have V2 : Arv Z h2 b2o k2 .long (8 : Int32) [(.long (0 : Int64)), (.long (0 : Int64)), (.long (0 : Int64)), (.long (0 : Int64)), (.long (0 : Int64)), (.long (0 : Int64)), (.long (0 : Int64)), (.long (0 : Int64))] (.long (0 : Int64)) := (Arv.new A2 (by decide)).pad (pad_rep [] (.long (0 : Int64)) 8)
  have f4 := (E.ext E2)
  have f5 := (F_slots.ext E2)
  obtain ⟨T6, h6, X6, e6, W6, st6⟩ := putF X2 hx hZ hown (host := "") (Or.inl (hw _ (List.mem_of_getElem? (i := 19) rfl))) Via.refl e2 f5 f4 (Or.inl (hw _ (List.mem_of_getElem? (i := 20) rfl))) (hw _ (List.mem_of_getElem? (i := 7) rfl)) (ty := (.array .long)) (by decide) rfl rfl (g := (mkF m 10 #[.val (.ref a1), .val (.int (4 : Int32)), .unset] [(.ref b2o), (.ref a1)])) rfl rfl (hb hby d3_10)
  have N6 := Fr.snoc X6 N0 ga
  have Z6 : n0 ≤ h6.size := by rw [W6.size]; exact Z2
  have K6 : Keep h0 h6 [a1] := K2.wr W6 (Or.inl (List.mem_of_getElem? (i := 0) rfl))
  have Fw6 := f5.same W6
  obtain ⟨T7, X7, e7, st7⟩ := getF X6 hx hZ hown (host := "") (Or.inl (hw _ (List.mem_of_getElem? (i := 19) rfl))) Via.refl e6 Fw6 (g := (mkF m 17 #[.val (.ref a1), .val (.int (4 : Int32)), .val (.int (0 : Int32))] [(.ref a1), (.int (0 : Int32))])) rfl rfl (hb hby d3_17)
  have f8 := (V2.other W6 (Ne.symm ne3))
  obtain ⟨cl9, Ar9, qk9, Sz9, Nn9, Hh9, Gg9⟩ := id (f8)
  obtain ⟨T10, X10, e10, st10⟩ := getF X7 hx hZ hown (host := "") (Or.inl (hw _ (List.mem_of_getElem? (i := 19) rfl))) Via.refl e7 Fw6 (g := (mkF m 25 #[.val (.ref a1), .val (.int (4 : Int32)), .val (.int (0 : Int32))] [(.ref a1)])) rfl rfl (hb hby d3_25)
  obtain ⟨cl11, Ar11, qk11, Sz11, Nn11, Hh11, Gg11⟩ := id (f8)
  have hin12 : ¬ ((0 : Int32) < 0 ∨ cl11.slots.size ≤ ((0 : Int32)).toNatClampNeg) := inb_of Sz11 ⟨by decide, by decide⟩
  obtain ⟨T12, h12, X12, e12, W12, st12⟩ := stJ X10 hx hZ e10 Ar11 (j := (0 : Int32)) hin12  (g := (mkF m 32 #[.val (.ref a1), .val (.int (4 : Int32)), .val (.int (0 : Int32))] [(.long (-9223372036854775808 : Int64)), (.int (0 : Int32)), (.ref b2o)])) rfl rfl (hb hby d3_32)
  have N12 := Fr.snoc X12 N6 b2
  have Z12 : n0 ≤ h12.size := by rw [W12.size]; exact Z6
  have K12 : Keep h0 h12 [a1] := K6.wr W12 (Or.inr bk2)
  have V12 : Arv Z h12 b2o k2 .long (8 : Int32) [(.long (-9223372036854775808 : Int64)), (.long (0 : Int64)), (.long (0 : Int64)), (.long (0 : Int64)), (.long (0 : Int64)), (.long (0 : Int64)), (.long (0 : Int64)), (.long (0 : Int64))] (.long (0 : Int64)) := Arv.set Ar11 qk11 Sz11 Nn11 Hh11 Gg11 rfl W12 0 rfl (Nat.le_of_ble_eq_true rfl)
  have f13 := (Fw6.other W12 (Or.inl ne3))
  obtain ⟨T14, X14, e14, st14⟩ := getF X12 hx hZ hown (host := "") (Or.inl (hw _ (List.mem_of_getElem? (i := 19) rfl))) Via.refl e12 f13 (g := (mkF m 17 #[.val (.ref a1), .val (.int (4 : Int32)), .val (.int (2 : Int32))] [(.ref a1), (.int (2 : Int32))])) rfl rfl (hb hby d3_17)
  obtain ⟨cl15, Ar15, qk15, Sz15, Nn15, Hh15, Gg15⟩ := id (V12)
  obtain ⟨T16, X16, e16, st16⟩ := getF X14 hx hZ hown (host := "") (Or.inl (hw _ (List.mem_of_getElem? (i := 19) rfl))) Via.refl e14 f13 (g := (mkF m 25 #[.val (.ref a1), .val (.int (4 : Int32)), .val (.int (2 : Int32))] [(.ref a1)])) rfl rfl (hb hby d3_25)
  obtain ⟨cl17, Ar17, qk17, Sz17, Nn17, Hh17, Gg17⟩ := id (V12)
  have hin18 : ¬ ((2 : Int32) < 0 ∨ cl17.slots.size ≤ ((2 : Int32)).toNatClampNeg) := inb_of Sz17 ⟨by decide, by decide⟩
  obtain ⟨T18, h18, X18, e18, W18, st18⟩ := stJ X16 hx hZ e16 Ar17 (j := (2 : Int32)) hin18  (g := (mkF m 32 #[.val (.ref a1), .val (.int (4 : Int32)), .val (.int (2 : Int32))] [(.long (-9223372036854775808 : Int64)), (.int (2 : Int32)), (.ref b2o)])) rfl rfl (hb hby d3_32)
  have N18 := Fr.snoc X18 N12 b2
  have Z18 : n0 ≤ h18.size := by rw [W18.size]; exact Z12
  have K18 : Keep h0 h18 [a1] := K12.wr W18 (Or.inr bk2)
  have V18 : Arv Z h18 b2o k2 .long (8 : Int32) [(.long (-9223372036854775808 : Int64)), (.long (0 : Int64)), (.long (-9223372036854775808 : Int64)), (.long (0 : Int64)), (.long (0 : Int64)), (.long (0 : Int64)), (.long (0 : Int64)), (.long (0 : Int64))] (.long (0 : Int64)) := Arv.set Ar17 qk17 Sz17 Nn17 Hh17 Gg17 rfl W18 2 rfl (Nat.le_of_ble_eq_true rfl)
  have f19 := (f13.other W18 (Or.inl ne3))
  obtain ⟨T20, X20, e20, st20⟩ := getF X18 hx hZ hown (host := "") (Or.inl (hw _ (List.mem_of_getElem? (i := 19) rfl))) Via.refl e18 f19 (g := (mkF m 17 #[.val (.ref a1), .val (.int (4 : Int32)), .val (.int (4 : Int32))] [(.ref a1), (.int (4 : Int32))])) rfl rfl (hb hby d3_17)
  obtain ⟨cl21, Ar21, qk21, Sz21, Nn21, Hh21, Gg21⟩ := id (V18)
  obtain ⟨T22, X22, e22, st22⟩ := getF X20 hx hZ hown (host := "") (Or.inl (hw _ (List.mem_of_getElem? (i := 19) rfl))) Via.refl e20 f19 (g := (mkF m 25 #[.val (.ref a1), .val (.int (4 : Int32)), .val (.int (4 : Int32))] [(.ref a1)])) rfl rfl (hb hby d3_25)
  obtain ⟨cl23, Ar23, qk23, Sz23, Nn23, Hh23, Gg23⟩ := id (V18)
  have hin24 : ¬ ((4 : Int32) < 0 ∨ cl23.slots.size ≤ ((4 : Int32)).toNatClampNeg) := inb_of Sz23 ⟨by decide, by decide⟩
  obtain ⟨T24, h24, X24, e24, W24, st24⟩ := stJ X22 hx hZ e22 Ar23 (j := (4 : Int32)) hin24  (g := (mkF m 32 #[.val (.ref a1), .val (.int (4 : Int32)), .val (.int (4 : Int32))] [(.long (-9223372036854775808 : Int64)), (.int (4 : Int32)), (.ref b2o)])) rfl rfl (hb hby d3_32)
  have N24 := Fr.snoc X24 N18 b2
  have Z24 : n0 ≤ h24.size := by rw [W24.size]; exact Z18
  have K24 : Keep h0 h24 [a1] := K18.wr W24 (Or.inr bk2)
  have V24 : Arv Z h24 b2o k2 .long (8 : Int32) [(.long (-9223372036854775808 : Int64)), (.long (0 : Int64)), (.long (-9223372036854775808 : Int64)), (.long (0 : Int64)), (.long (-9223372036854775808 : Int64)), (.long (0 : Int64)), (.long (0 : Int64)), (.long (0 : Int64))] (.long (0 : Int64)) := Arv.set Ar23 qk23 Sz23 Nn23 Hh23 Gg23 rfl W24 4 rfl (Nat.le_of_ble_eq_true rfl)
  have f25 := (f19.other W24 (Or.inl ne3))
  obtain ⟨T26, X26, e26, st26⟩ := getF X24 hx hZ hown (host := "") (Or.inl (hw _ (List.mem_of_getElem? (i := 19) rfl))) Via.refl e24 f25 (g := (mkF m 17 #[.val (.ref a1), .val (.int (4 : Int32)), .val (.int (6 : Int32))] [(.ref a1), (.int (6 : Int32))])) rfl rfl (hb hby d3_17)
  obtain ⟨cl27, Ar27, qk27, Sz27, Nn27, Hh27, Gg27⟩ := id (V24)
  obtain ⟨T28, X28, e28, st28⟩ := getF X26 hx hZ hown (host := "") (Or.inl (hw _ (List.mem_of_getElem? (i := 19) rfl))) Via.refl e26 f25 (g := (mkF m 25 #[.val (.ref a1), .val (.int (4 : Int32)), .val (.int (6 : Int32))] [(.ref a1)])) rfl rfl (hb hby d3_25)
  obtain ⟨cl29, Ar29, qk29, Sz29, Nn29, Hh29, Gg29⟩ := id (V24)
  have hin30 : ¬ ((6 : Int32) < 0 ∨ cl29.slots.size ≤ ((6 : Int32)).toNatClampNeg) := inb_of Sz29 ⟨by decide, by decide⟩
  obtain ⟨T30, h30, X30, e30, W30, st30⟩ := stJ X28 hx hZ e28 Ar29 (j := (6 : Int32)) hin30  (g := (mkF m 32 #[.val (.ref a1), .val (.int (4 : Int32)), .val (.int (6 : Int32))] [(.long (-9223372036854775808 : Int64)), (.int (6 : Int32)), (.ref b2o)])) rfl rfl (hb hby d3_32)
  have N30 := Fr.snoc X30 N24 b2
  have Z30 : n0 ≤ h30.size := by rw [W30.size]; exact Z24
  have K30 : Keep h0 h30 [a1] := K24.wr W30 (Or.inr bk2)
  have V30 : Arv Z h30 b2o k2 .long (8 : Int32) [(.long (-9223372036854775808 : Int64)), (.long (0 : Int64)), (.long (-9223372036854775808 : Int64)), (.long (0 : Int64)), (.long (-9223372036854775808 : Int64)), (.long (0 : Int64)), (.long (-9223372036854775808 : Int64)), (.long (0 : Int64))] (.long (0 : Int64)) := Arv.set Ar29 qk29 Sz29 Nn29 Hh29 Gg29 rfl W30 6 rfl (Nat.le_of_ble_eq_true rfl)
  have f31 := (f25.other W30 (Or.inl ne3))
  obtain ⟨T32, X32, e32, st32⟩ := getF X30 hx hZ hown (host := "") (Or.inl (hw _ (List.mem_of_getElem? (i := 19) rfl))) Via.refl e30 f31 (g := (mkF m 17 #[.val (.ref a1), .val (.int (4 : Int32)), .val (.int (8 : Int32))] [(.ref a1), (.int (8 : Int32))])) rfl rfl (hb hby d3_17)
  obtain ⟨cl33, Ar33, qk33, Sz33, Nn33, Hh33, Gg33⟩ := id (V30)
  obtain ⟨_, _, ⟨T34, L34, k34, n34⟩, -, X34, ⟨Lc34, hQ34, l34, y34, z34⟩, st34⟩ := Jvm.LawKit.callS X32 hx (y := (⟨"java/lang/Long", "numberOfLeadingZeros", "(J)I"⟩ : MethodName)) hown (mvT hZ (hw _ (List.mem_of_getElem? (i := 22) rfl))) (mvT hZ (hw _ (List.mem_of_getElem? (i := 23) rfl))) (mvT hZ (hw _ (List.mem_of_getElem? (i := 24) rfl))) (mvT hZ (hw _ (List.mem_of_getElem? (i := 25) rfl))) (by decide) (backOf (W := 1) (rmZ4 l Z a0 hw []   h30 n0 Z30 ) hZ (hw _ (List.mem_of_getElem? (i := 25) rfl)) (hw _ (List.mem_of_getElem? (i := 24) rfl)) (by decide) (by decide)) (g := (mkF m 42 #[.val (.ref a1), .val (.int (4 : Int32)), .val (.int (8 : Int32))] [(.long (4 : Int64)), (.ref a1)])) rfl (by rw [hml]; rfl) (argsL := [(.long (4 : Int64))]) (rest := [(.ref a1)]) (lenOf pd_1 rfl) rfl (by show 2 * 0 + _ ≤ _; exact Nat.le_of_eq rfl) (hb hby d3_42) (fun _ _ => ⟨rfl, e32, (by decide : 1 + 0 ≤ _), (by decide : 8 + 0 ≤ _)⟩)
  dsimp only [Pt.U, Pt.locs, Pt.cells, Pt.slots] at X34 l34 y34 z34 st34 hQ34
  subst l34 y34 z34
  obtain ⟨r34, hr34, rfl, N34q, e34⟩ := hQ34
  have N34 := Fr.app N30 N34q
  subst hr34
  have f35 := (((((f4.wr W6).wr W12).wr W18).wr W24).wr W30)
  have f36 := ((((((F_shift.ext E2).other W6 (Or.inr (slot_ne (Or.inl (hw _ (List.mem_of_getElem? (i := 32) rfl))) (Or.inl (hw _ (List.mem_of_getElem? (i := 20) rfl))) (by decide) (t := .int) (t' := (.array .long)) (by decide) (by decide)))).other W12 (Or.inl ne3)).other W18 (Or.inl ne3)).other W24 (Or.inl ne3)).other W30 (Or.inl ne3))
  obtain ⟨T37, h37, X37, e37, W37, st37⟩ := putF X34 hx hZ hown (host := "") (Or.inl (hw _ (List.mem_of_getElem? (i := 31) rfl))) Via.refl e34 f36 f35 (Or.inl (hw _ (List.mem_of_getElem? (i := 32) rfl))) (hw _ (List.mem_of_getElem? (i := 7) rfl)) (ty := .int) (by decide) rfl rfl (g := (mkF m 47 #[.val (.ref a1), .val (.int (4 : Int32)), .val (.int (8 : Int32))] [(.int (62 : Int32)), (.ref a1)])) rfl rfl (hb hby d3_47)
  have N37 := Fr.snoc X37 N34 ga
  have Z37 : n0 ≤ h37.size := by rw [W37.size]; exact Z30
  have K37 : Keep h0 h37 [a1] := K30.wr W37 (Or.inl (List.mem_of_getElem? (i := 0) rfl))
  have Fw37 := f36.same W37
  obtain ⟨fs, hr, hrun, hended, hW, hsame⟩ := X37.leave (v := none) (fun _ => rfl)
  refine ⟨_, _, pre0 _ ?_, hrun, hended, _, _, rfl, ?_, ⟨_, rfl⟩, hW, hsame.mono (by decide) (by decide)⟩
  · show Steps p.tables e below (s₁.setTop (mkF m 0 #[.val (.ref a1), .val (.int (4 : Int32)), .unset] [])) _
    refine XS.aloadN X0.here hx rfl (hb hby d3_0) rfl rfl ?_
    show Steps p.tables e below (s₁.setTop (mkF m 1 #[.val (.ref a1), .val (.int (4 : Int32)), .unset] [(.ref a1)])) _
    refine st1 _ ?_
    show Steps p.tables e below (T1.setTop (mkF m 4 #[.val (.ref a1), .val (.int (4 : Int32)), .unset] [])) _
    refine XS.aloadN X1.here hx rfl (hb hby d3_4) rfl rfl ?_
    show Steps p.tables e below (T1.setTop (mkF m 5 #[.val (.ref a1), .val (.int (4 : Int32)), .unset] [(.ref a1)])) _
    refine XS.iconst X1.here hx rfl (hb hby d3_5) ?_
    show Steps p.tables e below (T1.setTop (mkF m 6 #[.val (.ref a1), .val (.int (4 : Int32)), .unset] [(.int (2 : Int32)), (.ref a1)])) _
    refine XS.iloadN X1.here hx rfl (hb hby d3_6) rfl ?_
    show Steps p.tables e below (T1.setTop (mkF m 7 #[.val (.ref a1), .val (.int (4 : Int32)), .unset] [(.int (4 : Int32)), (.int (2 : Int32)), (.ref a1)])) _
    refine XS.imul X1.here hx rfl (hb hby d3_7) rfl ?_
    show Steps p.tables e below (T1.setTop (mkF m 8 #[.val (.ref a1), .val (.int (4 : Int32)), .unset] [(.int (8 : Int32)), (.ref a1)])) _
    refine st2 _ ?_
    show Steps p.tables e below (T2.setTop (mkF m 10 #[.val (.ref a1), .val (.int (4 : Int32)), .unset] [(.ref b2o), (.ref a1)])) _
    refine st6 _ ?_
    show Steps p.tables e below (T6.setTop (mkF m 13 #[.val (.ref a1), .val (.int (4 : Int32)), .unset] [])) _
    refine XS.iconst X6.here hx rfl (hb hby d3_13) ?_
    show Steps p.tables e below (T6.setTop (mkF m 14 #[.val (.ref a1), .val (.int (4 : Int32)), .unset] [(.int (0 : Int32))])) _
    refine XS.istoreN X6.here hx rfl (hb hby d3_14) rfl (l' := #[.val (.ref a1), .val (.int (4 : Int32)), .val (.int (0 : Int32))]) rfl ?_
    show Steps p.tables e below (T6.setTop (mkF m 15 #[.val (.ref a1), .val (.int (4 : Int32)), .val (.int (0 : Int32))] [])) _
    refine XS.iloadN X6.here hx rfl (hb hby d3_15) rfl ?_
    show Steps p.tables e below (T6.setTop (mkF m 16 #[.val (.ref a1), .val (.int (4 : Int32)), .val (.int (0 : Int32))] [(.int (0 : Int32))])) _
    refine XS.aloadN X6.here hx rfl (hb hby d3_16) rfl rfl ?_
    show Steps p.tables e below (T6.setTop (mkF m 17 #[.val (.ref a1), .val (.int (4 : Int32)), .val (.int (0 : Int32))] [(.ref a1), (.int (0 : Int32))])) _
    refine st7 _ ?_
    show Steps p.tables e below (T7.setTop (mkF m 20 #[.val (.ref a1), .val (.int (4 : Int32)), .val (.int (0 : Int32))] [(.ref b2o), (.int (0 : Int32))])) _
    refine X7.arraylength hx (by rw [e7]; exact Ar9.1) (State.isArrayOf_alike hZ.alike Ar9.2.1) (g := (mkF m 20 #[.val (.ref a1), .val (.int (4 : Int32)), .val (.int (0 : Int32))] [(.ref b2o), (.int (0 : Int32))])) rfl rfl (hb hby d3_20) _ ?_
    rw [len_of Sz9 Nn9]
    show Steps p.tables e below (T7.setTop (mkF m 21 #[.val (.ref a1), .val (.int (4 : Int32)), .val (.int (0 : Int32))] [(.int (8 : Int32)), (.int (0 : Int32))])) _
    refine XS.icmpNo X7.here hx rfl (hb hby d3_21) rfl (tlt (by decide)).2.1 ?_
    show Steps p.tables e below (T7.setTop (mkF m 24 #[.val (.ref a1), .val (.int (4 : Int32)), .val (.int (0 : Int32))] [])) _
    refine XS.aloadN X7.here hx rfl (hb hby d3_24) rfl rfl ?_
    show Steps p.tables e below (T7.setTop (mkF m 25 #[.val (.ref a1), .val (.int (4 : Int32)), .val (.int (0 : Int32))] [(.ref a1)])) _
    refine st10 _ ?_
    show Steps p.tables e below (T10.setTop (mkF m 28 #[.val (.ref a1), .val (.int (4 : Int32)), .val (.int (0 : Int32))] [(.ref b2o)])) _
    refine XS.iloadN X10.here hx rfl (hb hby d3_28) rfl ?_
    show Steps p.tables e below (T10.setTop (mkF m 29 #[.val (.ref a1), .val (.int (4 : Int32)), .val (.int (0 : Int32))] [(.int (0 : Int32)), (.ref b2o)])) _
    refine X10.ldc2Long hx hown (mvT hZ (hw _ (List.mem_of_getElem? (i := 21) rfl))) (g := (mkF m 29 #[.val (.ref a1), .val (.int (4 : Int32)), .val (.int (0 : Int32))] [(.int (0 : Int32)), (.ref b2o)])) rfl (hb hby d3_29) _ ?_
    show Steps p.tables e below (T10.setTop (mkF m 32 #[.val (.ref a1), .val (.int (4 : Int32)), .val (.int (0 : Int32))] [(.long (-9223372036854775808 : Int64)), (.int (0 : Int32)), (.ref b2o)])) _
    refine st12 _ ?_
    show Steps p.tables e below (T12.setTop (mkF m 33 #[.val (.ref a1), .val (.int (4 : Int32)), .val (.int (0 : Int32))] [])) _
    refine XS.iinc X12.here hx rfl (hb hby d3_33) rfl (l' := #[.val (.ref a1), .val (.int (4 : Int32)), .val (.int (2 : Int32))]) rfl ?_
    show Steps p.tables e below (T12.setTop (mkF m 36 #[.val (.ref a1), .val (.int (4 : Int32)), .val (.int (2 : Int32))] [])) _
    refine XS.goto X12.here hx rfl (pc0 := 36) (pc' := 15) rfl (hb hby d3_36) (by decide) (by decide) ?_
    show Steps p.tables e below (T12.setTop (mkF m 15 #[.val (.ref a1), .val (.int (4 : Int32)), .val (.int (2 : Int32))] [])) _
    refine XS.iloadN X12.here hx rfl (hb hby d3_15) rfl ?_
    show Steps p.tables e below (T12.setTop (mkF m 16 #[.val (.ref a1), .val (.int (4 : Int32)), .val (.int (2 : Int32))] [(.int (2 : Int32))])) _
    refine XS.aloadN X12.here hx rfl (hb hby d3_16) rfl rfl ?_
    show Steps p.tables e below (T12.setTop (mkF m 17 #[.val (.ref a1), .val (.int (4 : Int32)), .val (.int (2 : Int32))] [(.ref a1), (.int (2 : Int32))])) _
    refine st14 _ ?_
    show Steps p.tables e below (T14.setTop (mkF m 20 #[.val (.ref a1), .val (.int (4 : Int32)), .val (.int (2 : Int32))] [(.ref b2o), (.int (2 : Int32))])) _
    refine X14.arraylength hx (by rw [e14]; exact Ar15.1) (State.isArrayOf_alike hZ.alike Ar15.2.1) (g := (mkF m 20 #[.val (.ref a1), .val (.int (4 : Int32)), .val (.int (2 : Int32))] [(.ref b2o), (.int (2 : Int32))])) rfl rfl (hb hby d3_20) _ ?_
    rw [len_of Sz15 Nn15]
    show Steps p.tables e below (T14.setTop (mkF m 21 #[.val (.ref a1), .val (.int (4 : Int32)), .val (.int (2 : Int32))] [(.int (8 : Int32)), (.int (2 : Int32))])) _
    refine XS.icmpNo X14.here hx rfl (hb hby d3_21) rfl (tlt (by decide)).2.1 ?_
    show Steps p.tables e below (T14.setTop (mkF m 24 #[.val (.ref a1), .val (.int (4 : Int32)), .val (.int (2 : Int32))] [])) _
    refine XS.aloadN X14.here hx rfl (hb hby d3_24) rfl rfl ?_
    show Steps p.tables e below (T14.setTop (mkF m 25 #[.val (.ref a1), .val (.int (4 : Int32)), .val (.int (2 : Int32))] [(.ref a1)])) _
    refine st16 _ ?_
    show Steps p.tables e below (T16.setTop (mkF m 28 #[.val (.ref a1), .val (.int (4 : Int32)), .val (.int (2 : Int32))] [(.ref b2o)])) _
    refine XS.iloadN X16.here hx rfl (hb hby d3_28) rfl ?_
    show Steps p.tables e below (T16.setTop (mkF m 29 #[.val (.ref a1), .val (.int (4 : Int32)), .val (.int (2 : Int32))] [(.int (2 : Int32)), (.ref b2o)])) _
    refine X16.ldc2Long hx hown (mvT hZ (hw _ (List.mem_of_getElem? (i := 21) rfl))) (g := (mkF m 29 #[.val (.ref a1), .val (.int (4 : Int32)), .val (.int (2 : Int32))] [(.int (2 : Int32)), (.ref b2o)])) rfl (hb hby d3_29) _ ?_
    show Steps p.tables e below (T16.setTop (mkF m 32 #[.val (.ref a1), .val (.int (4 : Int32)), .val (.int (2 : Int32))] [(.long (-9223372036854775808 : Int64)), (.int (2 : Int32)), (.ref b2o)])) _
    refine st18 _ ?_
    show Steps p.tables e below (T18.setTop (mkF m 33 #[.val (.ref a1), .val (.int (4 : Int32)), .val (.int (2 : Int32))] [])) _
    refine XS.iinc X18.here hx rfl (hb hby d3_33) rfl (l' := #[.val (.ref a1), .val (.int (4 : Int32)), .val (.int (4 : Int32))]) rfl ?_
    show Steps p.tables e below (T18.setTop (mkF m 36 #[.val (.ref a1), .val (.int (4 : Int32)), .val (.int (4 : Int32))] [])) _
    refine XS.goto X18.here hx rfl (pc0 := 36) (pc' := 15) rfl (hb hby d3_36) (by decide) (by decide) ?_
    show Steps p.tables e below (T18.setTop (mkF m 15 #[.val (.ref a1), .val (.int (4 : Int32)), .val (.int (4 : Int32))] [])) _
    refine XS.iloadN X18.here hx rfl (hb hby d3_15) rfl ?_
    show Steps p.tables e below (T18.setTop (mkF m 16 #[.val (.ref a1), .val (.int (4 : Int32)), .val (.int (4 : Int32))] [(.int (4 : Int32))])) _
    refine XS.aloadN X18.here hx rfl (hb hby d3_16) rfl rfl ?_
    show Steps p.tables e below (T18.setTop (mkF m 17 #[.val (.ref a1), .val (.int (4 : Int32)), .val (.int (4 : Int32))] [(.ref a1), (.int (4 : Int32))])) _
    refine st20 _ ?_
    show Steps p.tables e below (T20.setTop (mkF m 20 #[.val (.ref a1), .val (.int (4 : Int32)), .val (.int (4 : Int32))] [(.ref b2o), (.int (4 : Int32))])) _
    refine X20.arraylength hx (by rw [e20]; exact Ar21.1) (State.isArrayOf_alike hZ.alike Ar21.2.1) (g := (mkF m 20 #[.val (.ref a1), .val (.int (4 : Int32)), .val (.int (4 : Int32))] [(.ref b2o), (.int (4 : Int32))])) rfl rfl (hb hby d3_20) _ ?_
    rw [len_of Sz21 Nn21]
    show Steps p.tables e below (T20.setTop (mkF m 21 #[.val (.ref a1), .val (.int (4 : Int32)), .val (.int (4 : Int32))] [(.int (8 : Int32)), (.int (4 : Int32))])) _
    refine XS.icmpNo X20.here hx rfl (hb hby d3_21) rfl (tlt (by decide)).2.1 ?_
    show Steps p.tables e below (T20.setTop (mkF m 24 #[.val (.ref a1), .val (.int (4 : Int32)), .val (.int (4 : Int32))] [])) _
    refine XS.aloadN X20.here hx rfl (hb hby d3_24) rfl rfl ?_
    show Steps p.tables e below (T20.setTop (mkF m 25 #[.val (.ref a1), .val (.int (4 : Int32)), .val (.int (4 : Int32))] [(.ref a1)])) _
    refine st22 _ ?_
    show Steps p.tables e below (T22.setTop (mkF m 28 #[.val (.ref a1), .val (.int (4 : Int32)), .val (.int (4 : Int32))] [(.ref b2o)])) _
    refine XS.iloadN X22.here hx rfl (hb hby d3_28) rfl ?_
    show Steps p.tables e below (T22.setTop (mkF m 29 #[.val (.ref a1), .val (.int (4 : Int32)), .val (.int (4 : Int32))] [(.int (4 : Int32)), (.ref b2o)])) _
    refine X22.ldc2Long hx hown (mvT hZ (hw _ (List.mem_of_getElem? (i := 21) rfl))) (g := (mkF m 29 #[.val (.ref a1), .val (.int (4 : Int32)), .val (.int (4 : Int32))] [(.int (4 : Int32)), (.ref b2o)])) rfl (hb hby d3_29) _ ?_
    show Steps p.tables e below (T22.setTop (mkF m 32 #[.val (.ref a1), .val (.int (4 : Int32)), .val (.int (4 : Int32))] [(.long (-9223372036854775808 : Int64)), (.int (4 : Int32)), (.ref b2o)])) _
    refine st24 _ ?_
    show Steps p.tables e below (T24.setTop (mkF m 33 #[.val (.ref a1), .val (.int (4 : Int32)), .val (.int (4 : Int32))] [])) _
    refine XS.iinc X24.here hx rfl (hb hby d3_33) rfl (l' := #[.val (.ref a1), .val (.int (4 : Int32)), .val (.int (6 : Int32))]) rfl ?_
    show Steps p.tables e below (T24.setTop (mkF m 36 #[.val (.ref a1), .val (.int (4 : Int32)), .val (.int (6 : Int32))] [])) _
    refine XS.goto X24.here hx rfl (pc0 := 36) (pc' := 15) rfl (hb hby d3_36) (by decide) (by decide) ?_
    show Steps p.tables e below (T24.setTop (mkF m 15 #[.val (.ref a1), .val (.int (4 : Int32)), .val (.int (6 : Int32))] [])) _
    refine XS.iloadN X24.here hx rfl (hb hby d3_15) rfl ?_
    show Steps p.tables e below (T24.setTop (mkF m 16 #[.val (.ref a1), .val (.int (4 : Int32)), .val (.int (6 : Int32))] [(.int (6 : Int32))])) _
    refine XS.aloadN X24.here hx rfl (hb hby d3_16) rfl rfl ?_
    show Steps p.tables e below (T24.setTop (mkF m 17 #[.val (.ref a1), .val (.int (4 : Int32)), .val (.int (6 : Int32))] [(.ref a1), (.int (6 : Int32))])) _
    refine st26 _ ?_
    show Steps p.tables e below (T26.setTop (mkF m 20 #[.val (.ref a1), .val (.int (4 : Int32)), .val (.int (6 : Int32))] [(.ref b2o), (.int (6 : Int32))])) _
    refine X26.arraylength hx (by rw [e26]; exact Ar27.1) (State.isArrayOf_alike hZ.alike Ar27.2.1) (g := (mkF m 20 #[.val (.ref a1), .val (.int (4 : Int32)), .val (.int (6 : Int32))] [(.ref b2o), (.int (6 : Int32))])) rfl rfl (hb hby d3_20) _ ?_
    rw [len_of Sz27 Nn27]
    show Steps p.tables e below (T26.setTop (mkF m 21 #[.val (.ref a1), .val (.int (4 : Int32)), .val (.int (6 : Int32))] [(.int (8 : Int32)), (.int (6 : Int32))])) _
    refine XS.icmpNo X26.here hx rfl (hb hby d3_21) rfl (tlt (by decide)).2.1 ?_
    show Steps p.tables e below (T26.setTop (mkF m 24 #[.val (.ref a1), .val (.int (4 : Int32)), .val (.int (6 : Int32))] [])) _
    refine XS.aloadN X26.here hx rfl (hb hby d3_24) rfl rfl ?_
    show Steps p.tables e below (T26.setTop (mkF m 25 #[.val (.ref a1), .val (.int (4 : Int32)), .val (.int (6 : Int32))] [(.ref a1)])) _
    refine st28 _ ?_
    show Steps p.tables e below (T28.setTop (mkF m 28 #[.val (.ref a1), .val (.int (4 : Int32)), .val (.int (6 : Int32))] [(.ref b2o)])) _
    refine XS.iloadN X28.here hx rfl (hb hby d3_28) rfl ?_
    show Steps p.tables e below (T28.setTop (mkF m 29 #[.val (.ref a1), .val (.int (4 : Int32)), .val (.int (6 : Int32))] [(.int (6 : Int32)), (.ref b2o)])) _
    refine X28.ldc2Long hx hown (mvT hZ (hw _ (List.mem_of_getElem? (i := 21) rfl))) (g := (mkF m 29 #[.val (.ref a1), .val (.int (4 : Int32)), .val (.int (6 : Int32))] [(.int (6 : Int32)), (.ref b2o)])) rfl (hb hby d3_29) _ ?_
    show Steps p.tables e below (T28.setTop (mkF m 32 #[.val (.ref a1), .val (.int (4 : Int32)), .val (.int (6 : Int32))] [(.long (-9223372036854775808 : Int64)), (.int (6 : Int32)), (.ref b2o)])) _
    refine st30 _ ?_
    show Steps p.tables e below (T30.setTop (mkF m 33 #[.val (.ref a1), .val (.int (4 : Int32)), .val (.int (6 : Int32))] [])) _
    refine XS.iinc X30.here hx rfl (hb hby d3_33) rfl (l' := #[.val (.ref a1), .val (.int (4 : Int32)), .val (.int (8 : Int32))]) rfl ?_
    show Steps p.tables e below (T30.setTop (mkF m 36 #[.val (.ref a1), .val (.int (4 : Int32)), .val (.int (8 : Int32))] [])) _
    refine XS.goto X30.here hx rfl (pc0 := 36) (pc' := 15) rfl (hb hby d3_36) (by decide) (by decide) ?_
    show Steps p.tables e below (T30.setTop (mkF m 15 #[.val (.ref a1), .val (.int (4 : Int32)), .val (.int (8 : Int32))] [])) _
    refine XS.iloadN X30.here hx rfl (hb hby d3_15) rfl ?_
    show Steps p.tables e below (T30.setTop (mkF m 16 #[.val (.ref a1), .val (.int (4 : Int32)), .val (.int (8 : Int32))] [(.int (8 : Int32))])) _
    refine XS.aloadN X30.here hx rfl (hb hby d3_16) rfl rfl ?_
    show Steps p.tables e below (T30.setTop (mkF m 17 #[.val (.ref a1), .val (.int (4 : Int32)), .val (.int (8 : Int32))] [(.ref a1), (.int (8 : Int32))])) _
    refine st32 _ ?_
    show Steps p.tables e below (T32.setTop (mkF m 20 #[.val (.ref a1), .val (.int (4 : Int32)), .val (.int (8 : Int32))] [(.ref b2o), (.int (8 : Int32))])) _
    refine X32.arraylength hx (by rw [e32]; exact Ar33.1) (State.isArrayOf_alike hZ.alike Ar33.2.1) (g := (mkF m 20 #[.val (.ref a1), .val (.int (4 : Int32)), .val (.int (8 : Int32))] [(.ref b2o), (.int (8 : Int32))])) rfl rfl (hb hby d3_20) _ ?_
    rw [len_of Sz33 Nn33]
    show Steps p.tables e below (T32.setTop (mkF m 21 #[.val (.ref a1), .val (.int (4 : Int32)), .val (.int (8 : Int32))] [(.int (8 : Int32)), (.int (8 : Int32))])) _
    refine XS.icmpYes X32.here hx rfl (pc0 := 21) (pc' := 39) rfl (hb hby d3_21) rfl (flt (by decide)).2.1 (by decide) (by decide) ?_
    show Steps p.tables e below (T32.setTop (mkF m 39 #[.val (.ref a1), .val (.int (4 : Int32)), .val (.int (8 : Int32))] [])) _
    refine XS.aloadN X32.here hx rfl (hb hby d3_39) rfl rfl ?_
    show Steps p.tables e below (T32.setTop (mkF m 40 #[.val (.ref a1), .val (.int (4 : Int32)), .val (.int (8 : Int32))] [(.ref a1)])) _
    refine XS.iloadN X32.here hx rfl (hb hby d3_40) rfl ?_
    show Steps p.tables e below (T32.setTop (mkF m 41 #[.val (.ref a1), .val (.int (4 : Int32)), .val (.int (8 : Int32))] [(.int (4 : Int32)), (.ref a1)])) _
    refine XS.i2l X32.here hx rfl (hb hby d3_41) rfl ?_
    show Steps p.tables e below (T32.setTop (mkF m 42 #[.val (.ref a1), .val (.int (4 : Int32)), .val (.int (8 : Int32))] [(.long (4 : Int64)), (.ref a1)])) _
    refine st34 _ ?_
    show Steps p.tables e below (T34.setTop (mkF m 45 #[.val (.ref a1), .val (.int (4 : Int32)), .val (.int (8 : Int32))] [(.int (61 : Int32)), (.ref a1)])) _
    refine XS.iconst X34.here hx rfl (hb hby d3_45) ?_
    show Steps p.tables e below (T34.setTop (mkF m 46 #[.val (.ref a1), .val (.int (4 : Int32)), .val (.int (8 : Int32))] [(.int (1 : Int32)), (.int (61 : Int32)), (.ref a1)])) _
    refine XS.iadd X34.here hx rfl (hb hby d3_46) rfl ?_
    show Steps p.tables e below (T34.setTop (mkF m 47 #[.val (.ref a1), .val (.int (4 : Int32)), .val (.int (8 : Int32))] [(.int (62 : Int32)), (.ref a1)])) _
    refine st37 _ ?_
    show Steps p.tables e below (T37.setTop (mkF m 50 #[.val (.ref a1), .val (.int (4 : Int32)), .val (.int (8 : Int32))] [])) _
    exact X37.returnOut hx Bd.returns (hb hby d3_50) hr
  · show QrmI4 Z a1 h0 n0 _ T37.heap _
    have f38 := (f35.wr W37)
    have f39 := (f31.other W37 (Or.inr (slot_ne (Or.inl (hw _ (List.mem_of_getElem? (i := 20) rfl))) (Or.inl (hw _ (List.mem_of_getElem? (i := 32) rfl))) (by decide) (t := (.array .long)) (t' := .int) (by decide) (by decide))))
    have f40 := (((((((F_size.ext E2).other W6 (Or.inr (slot_ne (Or.inl (hw _ (List.mem_of_getElem? (i := 49) rfl))) (Or.inl (hw _ (List.mem_of_getElem? (i := 20) rfl))) (by decide) (t := .int) (t' := (.array .long)) (by decide) (by decide)))).other W12 (Or.inl ne3)).other W18 (Or.inl ne3)).other W24 (Or.inl ne3)).other W30 (Or.inl ne3)).other W37 (Or.inr (slot_ne (Or.inl (hw _ (List.mem_of_getElem? (i := 49) rfl))) (Or.inl (hw _ (List.mem_of_getElem? (i := 32) rfl))) (by decide) (t := .int) (t' := .int) (by decide) (by decide))))
    have f41 := (((((((F_sorted.ext E2).other W6 (Or.inr (slot_ne (Or.inl (hw _ (List.mem_of_getElem? (i := 47) rfl))) (Or.inl (hw _ (List.mem_of_getElem? (i := 20) rfl))) (by decide) (t := (.array .long)) (t' := (.array .long)) (by decide) (by decide)))).other W12 (Or.inl ne3)).other W18 (Or.inl ne3)).other W24 (Or.inl ne3)).other W30 (Or.inl ne3)).other W37 (Or.inr (slot_ne (Or.inl (hw _ (List.mem_of_getElem? (i := 47) rfl))) (Or.inl (hw _ (List.mem_of_getElem? (i := 32) rfl))) (by decide) (t := (.array .long)) (t' := .int) (by decide) (by decide))))
    have f42 := (V30.other W37 (Ne.symm ne3))
    rw [e37]
    exact ⟨rfl, N37, K37, b2o, _, b2, bk2, f38, f39, Fw37, f40, f41, f42⟩
theorem ef_rmI8 (m : MethodId) (a1 : Addr) : entryFrame m #[(.ref a1), (.int (8 : Int32))] 3 = mkF m 0 #[.val (.ref a1), .val (.int (8 : Int32)), .unset] [] := by first | (simp [entryFrame, mkF, argsToLocals, Value.category]; done) | rfl
def QrmI8 (Z : State) (a1 : Addr) (h0 : Heap) (n0 : Nat) (v : Option Value) (h : Heap) (L : List Loc) : Prop := v = none ∧ Fr n0 L ∧ Keep h0 h [a1] ∧ ∃ (sa : Addr) (sk : ClassId), n0 ≤ sa ∧ h0.size ≤ sa ∧ Exa Z h a1 "com/example/pricewright/pricewright/core/LongSumTable" ∧ Fld Z h a1 "com/example/pricewright/pricewright/core/LongSumTable" "slots" "[J" (.ref sa) ∧ Fld Z h a1 "com/example/pricewright/pricewright/core/LongSumTable" "shift" "I" (.int (61 : Int32)) ∧ Fld Z h a1 "com/example/pricewright/pricewright/core/LongSumTable" "size" "I" (.int (0 : Int32)) ∧ Fld Z h a1 "com/example/pricewright/pricewright/core/LongSumTable" "sorted" "[J" .null ∧ Arv Z h sa sk .long (16 : Int32) (own_new8.map Value.long) (.long (0 : Int64))
set_option maxRecDepth 65536 in
set_option maxHeartbeats 40000000 in
theorem rmI8 (l : Launch) (Z : State) (a0 : Array Value) (hw : ∀ d ∈ tables_1, d.before a0 Z = true) (ws : List Jvm.Cond) (a1 : Addr) (h0 : Heap) (n0 : Nat) (Z0 : n0 ≤ h0.size) (E : Exa Z h0 a1 "com/example/pricewright/pricewright/core/LongSumTable") (F_slots : Fld Z h0 a1 "com/example/pricewright/pricewright/core/LongSumTable" "slots" "[J" .null) (F_shift : Fld Z h0 a1 "com/example/pricewright/pricewright/core/LongSumTable" "shift" "I" (.int (0 : Int32))) (F_size : Fld Z h0 a1 "com/example/pricewright/pricewright/core/LongSumTable" "size" "I" (.int (0 : Int32))) (F_sorted : Fld Z h0 a1 "com/example/pricewright/pricewright/core/LongSumTable" "sorted" "[J" .null) (ga : n0 ≤ a1) :
    MetFree l (⟨"com/example/pricewright/pricewright/core/LongSumTable", "<init>", "(I)V"⟩ : MethodName) (head1 (Jvm.Cond.code (⟨"com/example/pricewright/pricewright/core/LongSumTable", "<init>", "(I)V"⟩ : MethodName) prog_19_method_2_code 3 none :: ws) ({ frames := 2, cells := 1, slots := 16, locals := 29 } : Room)) (fun a U => a = #[(.ref a1), (.int (8 : Int32))] ∧ Z.Warmed39 U.vm ∧ U.heap = h0) (fun _ _ _ _ _ => True) (fun _ U o U' => ∃ v L, o = .returned v ∧ QrmI8 Z a1 h0 n0 v U'.heap L ∧ FrameEnd U o U' L ({ frames := 2, cells := 1, slots := 16, locals := 29 } : Room).cells ({ frames := 2, cells := 1, slots := 16, locals := 29 } : Room).slots) := by
  refine MetFree.of_bodySF (plainFor_of_name pn_3) hisR ?_
  intro p e s m args below meth c s₁ Bd hml0 hP hK
  obtain ⟨rfl, hZ, hh⟩ := hP
  have hx := Bd.exec
  have hby := Bd.bytes
  have hml : c.maxLocals = 3 := hml0
  have hown : s.vm.findClass "com/example/pricewright/pricewright/core/LongSumTable" = some m.cls := findClass_of_methodNamed Bd.named
  have hnm := (name_of_methodNamed Bd.named Bd.method).1
  have X0 : Stand p l e ({ frames := 2, cells := 1, slots := 16, locals := 29 } : Room) s m #[(.ref a1), (.int (8 : Int32))] below meth c s₁ [] 0 0 := Stand.of_body Bd
  have e0 : s₁.heap = h0 := by rw [← hh, Bd.state]; rfl
  have N0 := Fr.nil n0
  have pre0 : ∀ t, Steps p.tables e below (s₁.setTop (mkF m 0 #[.val (.ref a1), .val (.int (8 : Int32)), .unset] [])) t → Steps p.tables e below (s₁.setTop (entryFrame m #[(.ref a1), (.int (8 : Int32))] 3)) t := fun t k => castTop (ef_rmI8 m a1) k
  obtain ⟨T1, X1, e1, st1⟩ := initO X0 hx hZ hown (hw _ (List.mem_of_getElem? (i := 15) rfl)) (hw _ (List.mem_of_getElem? (i := 16) rfl)) (hw _ (List.mem_of_getElem? (i := 17) rfl)) e0 (g := (mkF m 1 #[.val (.ref a1), .val (.int (8 : Int32)), .unset] [(.ref a1)])) rfl (by rw [hml]; rfl) rfl (hb hby d3_1) (by decide) (W := 0) (by show 2 * 0 + _ ≤ _; exact Nat.le_of_eq rfl) (by decide)
  obtain ⟨T2, h2, k2, X2, e2, E2, A2, st2⟩ := newP X1 hx hZ (hw _ (List.mem_of_getElem? (i := 18) rfl)) e1 (g := (mkF m 8 #[.val (.ref a1), .val (.int (8 : Int32)), .unset] [(.int (16 : Int32)), (.ref a1)])) rfl (hb hby d3_8) rfl (by decide) (cap := 16) (by decide) (by decide) (by decide) (by decide)
  obtain ⟨b2o, g2⟩ : ∃ z, z = h0.size := ⟨_, rfl⟩
  have b2 : n0 ≤ b2o := Nat.le_trans Z0 (Nat.le_of_eq g2.symm)
  have bk2 : h0.size ≤ b2o := Nat.le_trans (Keep.refl h0 [a1]).1 (Nat.le_of_eq g2.symm)
  have ne3 : a1 ≠ b2o := Nat.ne_of_lt (Nat.lt_of_lt_of_le E.lt (Nat.le_of_eq g2.symm))
  rw [← g2] at A2 st2
  have Z2 : n0 ≤ h2.size := Nat.le_trans Z0 E2.1
  have K2 : Keep h0 h2 [a1] := (Keep.refl h0 [a1]).ext E2
  have V2 : Arv Z h2 b2o k2 .long (16 : Int32) [(.long (0 : Int64)), (.long (0 : Int64)), (.long (0 : Int64)), (.long (0 : Int64)), (.long (0 : Int64)), (.long (0 : Int64)), (.long (0 : Int64)), (.long (0 : Int64)), (.long (0 : Int64)), (.long (0 : Int64)), (.long (0 : Int64)), (.long (0 : Int64)), (.long (0 : Int64)), (.long (0 : Int64)), (.long (0 : Int64)), (.long (0 : Int64))] (.long (0 : Int64)) := (Arv.new A2 (by decide)).pad (pad_rep [] (.long (0 : Int64)) 16)
  have f4 := (E.ext E2)
  have f5 := (F_slots.ext E2)
  obtain ⟨T6, h6, X6, e6, W6, st6⟩ := putF X2 hx hZ hown (host := "") (Or.inl (hw _ (List.mem_of_getElem? (i := 19) rfl))) Via.refl e2 f5 f4 (Or.inl (hw _ (List.mem_of_getElem? (i := 20) rfl))) (hw _ (List.mem_of_getElem? (i := 7) rfl)) (ty := (.array .long)) (by decide) rfl rfl (g := (mkF m 10 #[.val (.ref a1), .val (.int (8 : Int32)), .unset] [(.ref b2o), (.ref a1)])) rfl rfl (hb hby d3_10)
  have N6 := Fr.snoc X6 N0 ga
  have Z6 : n0 ≤ h6.size := by rw [W6.size]; exact Z2
  have K6 : Keep h0 h6 [a1] := K2.wr W6 (Or.inl (List.mem_of_getElem? (i := 0) rfl))
  have Fw6 := f5.same W6
  obtain ⟨T7, X7, e7, st7⟩ := getF X6 hx hZ hown (host := "") (Or.inl (hw _ (List.mem_of_getElem? (i := 19) rfl))) Via.refl e6 Fw6 (g := (mkF m 17 #[.val (.ref a1), .val (.int (8 : Int32)), .val (.int (0 : Int32))] [(.ref a1), (.int (0 : Int32))])) rfl rfl (hb hby d3_17)
  have f8 := (V2.other W6 (Ne.symm ne3))
  obtain ⟨cl9, Ar9, qk9, Sz9, Nn9, Hh9, Gg9⟩ := id (f8)
  obtain ⟨T10, X10, e10, st10⟩ := getF X7 hx hZ hown (host := "") (Or.inl (hw _ (List.mem_of_getElem? (i := 19) rfl))) Via.refl e7 Fw6 (g := (mkF m 25 #[.val (.ref a1), .val (.int (8 : Int32)), .val (.int (0 : Int32))] [(.ref a1)])) rfl rfl (hb hby d3_25)
  obtain ⟨cl11, Ar11, qk11, Sz11, Nn11, Hh11, Gg11⟩ := id (f8)
  have hin12 : ¬ ((0 : Int32) < 0 ∨ cl11.slots.size ≤ ((0 : Int32)).toNatClampNeg) := inb_of Sz11 ⟨by decide, by decide⟩
  obtain ⟨T12, h12, X12, e12, W12, st12⟩ := stJ X10 hx hZ e10 Ar11 (j := (0 : Int32)) hin12  (g := (mkF m 32 #[.val (.ref a1), .val (.int (8 : Int32)), .val (.int (0 : Int32))] [(.long (-9223372036854775808 : Int64)), (.int (0 : Int32)), (.ref b2o)])) rfl rfl (hb hby d3_32)
  have N12 := Fr.snoc X12 N6 b2
  have Z12 : n0 ≤ h12.size := by rw [W12.size]; exact Z6
  have K12 : Keep h0 h12 [a1] := K6.wr W12 (Or.inr bk2)
  have V12 : Arv Z h12 b2o k2 .long (16 : Int32) [(.long (-9223372036854775808 : Int64)), (.long (0 : Int64)), (.long (0 : Int64)), (.long (0 : Int64)), (.long (0 : Int64)), (.long (0 : Int64)), (.long (0 : Int64)), (.long (0 : Int64)), (.long (0 : Int64)), (.long (0 : Int64)), (.long (0 : Int64)), (.long (0 : Int64)), (.long (0 : Int64)), (.long (0 : Int64)), (.long (0 : Int64)), (.long (0 : Int64))] (.long (0 : Int64)) := Arv.set Ar11 qk11 Sz11 Nn11 Hh11 Gg11 rfl W12 0 rfl (Nat.le_of_ble_eq_true rfl)
  have f13 := (Fw6.other W12 (Or.inl ne3))
  obtain ⟨T14, X14, e14, st14⟩ := getF X12 hx hZ hown (host := "") (Or.inl (hw _ (List.mem_of_getElem? (i := 19) rfl))) Via.refl e12 f13 (g := (mkF m 17 #[.val (.ref a1), .val (.int (8 : Int32)), .val (.int (2 : Int32))] [(.ref a1), (.int (2 : Int32))])) rfl rfl (hb hby d3_17)
  obtain ⟨cl15, Ar15, qk15, Sz15, Nn15, Hh15, Gg15⟩ := id (V12)
  obtain ⟨T16, X16, e16, st16⟩ := getF X14 hx hZ hown (host := "") (Or.inl (hw _ (List.mem_of_getElem? (i := 19) rfl))) Via.refl e14 f13 (g := (mkF m 25 #[.val (.ref a1), .val (.int (8 : Int32)), .val (.int (2 : Int32))] [(.ref a1)])) rfl rfl (hb hby d3_25)
  obtain ⟨cl17, Ar17, qk17, Sz17, Nn17, Hh17, Gg17⟩ := id (V12)
  have hin18 : ¬ ((2 : Int32) < 0 ∨ cl17.slots.size ≤ ((2 : Int32)).toNatClampNeg) := inb_of Sz17 ⟨by decide, by decide⟩
  obtain ⟨T18, h18, X18, e18, W18, st18⟩ := stJ X16 hx hZ e16 Ar17 (j := (2 : Int32)) hin18  (g := (mkF m 32 #[.val (.ref a1), .val (.int (8 : Int32)), .val (.int (2 : Int32))] [(.long (-9223372036854775808 : Int64)), (.int (2 : Int32)), (.ref b2o)])) rfl rfl (hb hby d3_32)
  have N18 := Fr.snoc X18 N12 b2
  have Z18 : n0 ≤ h18.size := by rw [W18.size]; exact Z12
  have K18 : Keep h0 h18 [a1] := K12.wr W18 (Or.inr bk2)
  have V18 : Arv Z h18 b2o k2 .long (16 : Int32) [(.long (-9223372036854775808 : Int64)), (.long (0 : Int64)), (.long (-9223372036854775808 : Int64)), (.long (0 : Int64)), (.long (0 : Int64)), (.long (0 : Int64)), (.long (0 : Int64)), (.long (0 : Int64)), (.long (0 : Int64)), (.long (0 : Int64)), (.long (0 : Int64)), (.long (0 : Int64)), (.long (0 : Int64)), (.long (0 : Int64)), (.long (0 : Int64)), (.long (0 : Int64))] (.long (0 : Int64)) := Arv.set Ar17 qk17 Sz17 Nn17 Hh17 Gg17 rfl W18 2 rfl (Nat.le_of_ble_eq_true rfl)
  have f19 := (f13.other W18 (Or.inl ne3))
  obtain ⟨T20, X20, e20, st20⟩ := getF X18 hx hZ hown (host := "") (Or.inl (hw _ (List.mem_of_getElem? (i := 19) rfl))) Via.refl e18 f19 (g := (mkF m 17 #[.val (.ref a1), .val (.int (8 : Int32)), .val (.int (4 : Int32))] [(.ref a1), (.int (4 : Int32))])) rfl rfl (hb hby d3_17)
  obtain ⟨cl21, Ar21, qk21, Sz21, Nn21, Hh21, Gg21⟩ := id (V18)
  obtain ⟨T22, X22, e22, st22⟩ := getF X20 hx hZ hown (host := "") (Or.inl (hw _ (List.mem_of_getElem? (i := 19) rfl))) Via.refl e20 f19 (g := (mkF m 25 #[.val (.ref a1), .val (.int (8 : Int32)), .val (.int (4 : Int32))] [(.ref a1)])) rfl rfl (hb hby d3_25)
  obtain ⟨cl23, Ar23, qk23, Sz23, Nn23, Hh23, Gg23⟩ := id (V18)
  have hin24 : ¬ ((4 : Int32) < 0 ∨ cl23.slots.size ≤ ((4 : Int32)).toNatClampNeg) := inb_of Sz23 ⟨by decide, by decide⟩
  obtain ⟨T24, h24, X24, e24, W24, st24⟩ := stJ X22 hx hZ e22 Ar23 (j := (4 : Int32)) hin24  (g := (mkF m 32 #[.val (.ref a1), .val (.int (8 : Int32)), .val (.int (4 : Int32))] [(.long (-9223372036854775808 : Int64)), (.int (4 : Int32)), (.ref b2o)])) rfl rfl (hb hby d3_32)
  have N24 := Fr.snoc X24 N18 b2
  have Z24 : n0 ≤ h24.size := by rw [W24.size]; exact Z18
  have K24 : Keep h0 h24 [a1] := K18.wr W24 (Or.inr bk2)
  have V24 : Arv Z h24 b2o k2 .long (16 : Int32) [(.long (-9223372036854775808 : Int64)), (.long (0 : Int64)), (.long (-9223372036854775808 : Int64)), (.long (0 : Int64)), (.long (-9223372036854775808 : Int64)), (.long (0 : Int64)), (.long (0 : Int64)), (.long (0 : Int64)), (.long (0 : Int64)), (.long (0 : Int64)), (.long (0 : Int64)), (.long (0 : Int64)), (.long (0 : Int64)), (.long (0 : Int64)), (.long (0 : Int64)), (.long (0 : Int64))] (.long (0 : Int64)) := Arv.set Ar23 qk23 Sz23 Nn23 Hh23 Gg23 rfl W24 4 rfl (Nat.le_of_ble_eq_true rfl)
  have f25 := (f19.other W24 (Or.inl ne3))
  obtain ⟨T26, X26, e26, st26⟩ := getF X24 hx hZ hown (host := "") (Or.inl (hw _ (List.mem_of_getElem? (i := 19) rfl))) Via.refl e24 f25 (g := (mkF m 17 #[.val (.ref a1), .val (.int (8 : Int32)), .val (.int (6 : Int32))] [(.ref a1), (.int (6 : Int32))])) rfl rfl (hb hby d3_17)
  obtain ⟨cl27, Ar27, qk27, Sz27, Nn27, Hh27, Gg27⟩ := id (V24)
  obtain ⟨T28, X28, e28, st28⟩ := getF X26 hx hZ hown (host := "") (Or.inl (hw _ (List.mem_of_getElem? (i := 19) rfl))) Via.refl e26 f25 (g := (mkF m 25 #[.val (.ref a1), .val (.int (8 : Int32)), .val (.int (6 : Int32))] [(.ref a1)])) rfl rfl (hb hby d3_25)
  obtain ⟨cl29, Ar29, qk29, Sz29, Nn29, Hh29, Gg29⟩ := id (V24)
  have hin30 : ¬ ((6 : Int32) < 0 ∨ cl29.slots.size ≤ ((6 : Int32)).toNatClampNeg) := inb_of Sz29 ⟨by decide, by decide⟩
  obtain ⟨T30, h30, X30, e30, W30, st30⟩ := stJ X28 hx hZ e28 Ar29 (j := (6 : Int32)) hin30  (g := (mkF m 32 #[.val (.ref a1), .val (.int (8 : Int32)), .val (.int (6 : Int32))] [(.long (-9223372036854775808 : Int64)), (.int (6 : Int32)), (.ref b2o)])) rfl rfl (hb hby d3_32)
  have N30 := Fr.snoc X30 N24 b2
  have Z30 : n0 ≤ h30.size := by rw [W30.size]; exact Z24
  have K30 : Keep h0 h30 [a1] := K24.wr W30 (Or.inr bk2)
  have V30 : Arv Z h30 b2o k2 .long (16 : Int32) [(.long (-9223372036854775808 : Int64)), (.long (0 : Int64)), (.long (-9223372036854775808 : Int64)), (.long (0 : Int64)), (.long (-9223372036854775808 : Int64)), (.long (0 : Int64)), (.long (-9223372036854775808 : Int64)), (.long (0 : Int64)), (.long (0 : Int64)), (.long (0 : Int64)), (.long (0 : Int64)), (.long (0 : Int64)), (.long (0 : Int64)), (.long (0 : Int64)), (.long (0 : Int64)), (.long (0 : Int64))] (.long (0 : Int64)) := Arv.set Ar29 qk29 Sz29 Nn29 Hh29 Gg29 rfl W30 6 rfl (Nat.le_of_ble_eq_true rfl)
  have f31 := (f25.other W30 (Or.inl ne3))
  obtain ⟨T32, X32, e32, st32⟩ := getF X30 hx hZ hown (host := "") (Or.inl (hw _ (List.mem_of_getElem? (i := 19) rfl))) Via.refl e30 f31 (g := (mkF m 17 #[.val (.ref a1), .val (.int (8 : Int32)), .val (.int (8 : Int32))] [(.ref a1), (.int (8 : Int32))])) rfl rfl (hb hby d3_17)
  obtain ⟨cl33, Ar33, qk33, Sz33, Nn33, Hh33, Gg33⟩ := id (V30)
  obtain ⟨T34, X34, e34, st34⟩ := getF X32 hx hZ hown (host := "") (Or.inl (hw _ (List.mem_of_getElem? (i := 19) rfl))) Via.refl e32 f31 (g := (mkF m 25 #[.val (.ref a1), .val (.int (8 : Int32)), .val (.int (8 : Int32))] [(.ref a1)])) rfl rfl (hb hby d3_25)
  obtain ⟨cl35, Ar35, qk35, Sz35, Nn35, Hh35, Gg35⟩ := id (V30)
  have hin36 : ¬ ((8 : Int32) < 0 ∨ cl35.slots.size ≤ ((8 : Int32)).toNatClampNeg) := inb_of Sz35 ⟨by decide, by decide⟩
  obtain ⟨T36, h36, X36, e36, W36, st36⟩ := stJ X34 hx hZ e34 Ar35 (j := (8 : Int32)) hin36  (g := (mkF m 32 #[.val (.ref a1), .val (.int (8 : Int32)), .val (.int (8 : Int32))] [(.long (-9223372036854775808 : Int64)), (.int (8 : Int32)), (.ref b2o)])) rfl rfl (hb hby d3_32)
  have N36 := Fr.snoc X36 N30 b2
  have Z36 : n0 ≤ h36.size := by rw [W36.size]; exact Z30
  have K36 : Keep h0 h36 [a1] := K30.wr W36 (Or.inr bk2)
  have V36 : Arv Z h36 b2o k2 .long (16 : Int32) [(.long (-9223372036854775808 : Int64)), (.long (0 : Int64)), (.long (-9223372036854775808 : Int64)), (.long (0 : Int64)), (.long (-9223372036854775808 : Int64)), (.long (0 : Int64)), (.long (-9223372036854775808 : Int64)), (.long (0 : Int64)), (.long (-9223372036854775808 : Int64)), (.long (0 : Int64)), (.long (0 : Int64)), (.long (0 : Int64)), (.long (0 : Int64)), (.long (0 : Int64)), (.long (0 : Int64)), (.long (0 : Int64))] (.long (0 : Int64)) := Arv.set Ar35 qk35 Sz35 Nn35 Hh35 Gg35 rfl W36 8 rfl (Nat.le_of_ble_eq_true rfl)
  have f37 := (f31.other W36 (Or.inl ne3))
  obtain ⟨T38, X38, e38, st38⟩ := getF X36 hx hZ hown (host := "") (Or.inl (hw _ (List.mem_of_getElem? (i := 19) rfl))) Via.refl e36 f37 (g := (mkF m 17 #[.val (.ref a1), .val (.int (8 : Int32)), .val (.int (10 : Int32))] [(.ref a1), (.int (10 : Int32))])) rfl rfl (hb hby d3_17)
  obtain ⟨cl39, Ar39, qk39, Sz39, Nn39, Hh39, Gg39⟩ := id (V36)
  obtain ⟨T40, X40, e40, st40⟩ := getF X38 hx hZ hown (host := "") (Or.inl (hw _ (List.mem_of_getElem? (i := 19) rfl))) Via.refl e38 f37 (g := (mkF m 25 #[.val (.ref a1), .val (.int (8 : Int32)), .val (.int (10 : Int32))] [(.ref a1)])) rfl rfl (hb hby d3_25)
  obtain ⟨cl41, Ar41, qk41, Sz41, Nn41, Hh41, Gg41⟩ := id (V36)
  have hin42 : ¬ ((10 : Int32) < 0 ∨ cl41.slots.size ≤ ((10 : Int32)).toNatClampNeg) := inb_of Sz41 ⟨by decide, by decide⟩
  obtain ⟨T42, h42, X42, e42, W42, st42⟩ := stJ X40 hx hZ e40 Ar41 (j := (10 : Int32)) hin42  (g := (mkF m 32 #[.val (.ref a1), .val (.int (8 : Int32)), .val (.int (10 : Int32))] [(.long (-9223372036854775808 : Int64)), (.int (10 : Int32)), (.ref b2o)])) rfl rfl (hb hby d3_32)
  have N42 := Fr.snoc X42 N36 b2
  have Z42 : n0 ≤ h42.size := by rw [W42.size]; exact Z36
  have K42 : Keep h0 h42 [a1] := K36.wr W42 (Or.inr bk2)
  have V42 : Arv Z h42 b2o k2 .long (16 : Int32) [(.long (-9223372036854775808 : Int64)), (.long (0 : Int64)), (.long (-9223372036854775808 : Int64)), (.long (0 : Int64)), (.long (-9223372036854775808 : Int64)), (.long (0 : Int64)), (.long (-9223372036854775808 : Int64)), (.long (0 : Int64)), (.long (-9223372036854775808 : Int64)), (.long (0 : Int64)), (.long (-9223372036854775808 : Int64)), (.long (0 : Int64)), (.long (0 : Int64)), (.long (0 : Int64)), (.long (0 : Int64)), (.long (0 : Int64))] (.long (0 : Int64)) := Arv.set Ar41 qk41 Sz41 Nn41 Hh41 Gg41 rfl W42 10 rfl (Nat.le_of_ble_eq_true rfl)
  have f43 := (f37.other W42 (Or.inl ne3))
  obtain ⟨T44, X44, e44, st44⟩ := getF X42 hx hZ hown (host := "") (Or.inl (hw _ (List.mem_of_getElem? (i := 19) rfl))) Via.refl e42 f43 (g := (mkF m 17 #[.val (.ref a1), .val (.int (8 : Int32)), .val (.int (12 : Int32))] [(.ref a1), (.int (12 : Int32))])) rfl rfl (hb hby d3_17)
  obtain ⟨cl45, Ar45, qk45, Sz45, Nn45, Hh45, Gg45⟩ := id (V42)
  obtain ⟨T46, X46, e46, st46⟩ := getF X44 hx hZ hown (host := "") (Or.inl (hw _ (List.mem_of_getElem? (i := 19) rfl))) Via.refl e44 f43 (g := (mkF m 25 #[.val (.ref a1), .val (.int (8 : Int32)), .val (.int (12 : Int32))] [(.ref a1)])) rfl rfl (hb hby d3_25)
  obtain ⟨cl47, Ar47, qk47, Sz47, Nn47, Hh47, Gg47⟩ := id (V42)
  have hin48 : ¬ ((12 : Int32) < 0 ∨ cl47.slots.size ≤ ((12 : Int32)).toNatClampNeg) := inb_of Sz47 ⟨by decide, by decide⟩
  obtain ⟨T48, h48, X48, e48, W48, st48⟩ := stJ X46 hx hZ e46 Ar47 (j := (12 : Int32)) hin48  (g := (mkF m 32 #[.val (.ref a1), .val (.int (8 : Int32)), .val (.int (12 : Int32))] [(.long (-9223372036854775808 : Int64)), (.int (12 : Int32)), (.ref b2o)])) rfl rfl (hb hby d3_32)
  have N48 := Fr.snoc X48 N42 b2
  have Z48 : n0 ≤ h48.size := by rw [W48.size]; exact Z42
  have K48 : Keep h0 h48 [a1] := K42.wr W48 (Or.inr bk2)
  have V48 : Arv Z h48 b2o k2 .long (16 : Int32) [(.long (-9223372036854775808 : Int64)), (.long (0 : Int64)), (.long (-9223372036854775808 : Int64)), (.long (0 : Int64)), (.long (-9223372036854775808 : Int64)), (.long (0 : Int64)), (.long (-9223372036854775808 : Int64)), (.long (0 : Int64)), (.long (-9223372036854775808 : Int64)), (.long (0 : Int64)), (.long (-9223372036854775808 : Int64)), (.long (0 : Int64)), (.long (-9223372036854775808 : Int64)), (.long (0 : Int64)), (.long (0 : Int64)), (.long (0 : Int64))] (.long (0 : Int64)) := Arv.set Ar47 qk47 Sz47 Nn47 Hh47 Gg47 rfl W48 12 rfl (Nat.le_of_ble_eq_true rfl)
  have f49 := (f43.other W48 (Or.inl ne3))
  obtain ⟨T50, X50, e50, st50⟩ := getF X48 hx hZ hown (host := "") (Or.inl (hw _ (List.mem_of_getElem? (i := 19) rfl))) Via.refl e48 f49 (g := (mkF m 17 #[.val (.ref a1), .val (.int (8 : Int32)), .val (.int (14 : Int32))] [(.ref a1), (.int (14 : Int32))])) rfl rfl (hb hby d3_17)
  obtain ⟨cl51, Ar51, qk51, Sz51, Nn51, Hh51, Gg51⟩ := id (V48)
  obtain ⟨T52, X52, e52, st52⟩ := getF X50 hx hZ hown (host := "") (Or.inl (hw _ (List.mem_of_getElem? (i := 19) rfl))) Via.refl e50 f49 (g := (mkF m 25 #[.val (.ref a1), .val (.int (8 : Int32)), .val (.int (14 : Int32))] [(.ref a1)])) rfl rfl (hb hby d3_25)
  obtain ⟨cl53, Ar53, qk53, Sz53, Nn53, Hh53, Gg53⟩ := id (V48)
  have hin54 : ¬ ((14 : Int32) < 0 ∨ cl53.slots.size ≤ ((14 : Int32)).toNatClampNeg) := inb_of Sz53 ⟨by decide, by decide⟩
  obtain ⟨T54, h54, X54, e54, W54, st54⟩ := stJ X52 hx hZ e52 Ar53 (j := (14 : Int32)) hin54  (g := (mkF m 32 #[.val (.ref a1), .val (.int (8 : Int32)), .val (.int (14 : Int32))] [(.long (-9223372036854775808 : Int64)), (.int (14 : Int32)), (.ref b2o)])) rfl rfl (hb hby d3_32)
  have N54 := Fr.snoc X54 N48 b2
  have Z54 : n0 ≤ h54.size := by rw [W54.size]; exact Z48
  have K54 : Keep h0 h54 [a1] := K48.wr W54 (Or.inr bk2)
  have V54 : Arv Z h54 b2o k2 .long (16 : Int32) [(.long (-9223372036854775808 : Int64)), (.long (0 : Int64)), (.long (-9223372036854775808 : Int64)), (.long (0 : Int64)), (.long (-9223372036854775808 : Int64)), (.long (0 : Int64)), (.long (-9223372036854775808 : Int64)), (.long (0 : Int64)), (.long (-9223372036854775808 : Int64)), (.long (0 : Int64)), (.long (-9223372036854775808 : Int64)), (.long (0 : Int64)), (.long (-9223372036854775808 : Int64)), (.long (0 : Int64)), (.long (-9223372036854775808 : Int64)), (.long (0 : Int64))] (.long (0 : Int64)) := Arv.set Ar53 qk53 Sz53 Nn53 Hh53 Gg53 rfl W54 14 rfl (Nat.le_of_ble_eq_true rfl)
  have f55 := (f49.other W54 (Or.inl ne3))
  obtain ⟨T56, X56, e56, st56⟩ := getF X54 hx hZ hown (host := "") (Or.inl (hw _ (List.mem_of_getElem? (i := 19) rfl))) Via.refl e54 f55 (g := (mkF m 17 #[.val (.ref a1), .val (.int (8 : Int32)), .val (.int (16 : Int32))] [(.ref a1), (.int (16 : Int32))])) rfl rfl (hb hby d3_17)
  obtain ⟨cl57, Ar57, qk57, Sz57, Nn57, Hh57, Gg57⟩ := id (V54)
  obtain ⟨_, _, ⟨T58, L58, k58, n58⟩, -, X58, ⟨Lc58, hQ58, l58, y58, z58⟩, st58⟩ := Jvm.LawKit.callS X56 hx (y := (⟨"java/lang/Long", "numberOfLeadingZeros", "(J)I"⟩ : MethodName)) hown (mvT hZ (hw _ (List.mem_of_getElem? (i := 22) rfl))) (mvT hZ (hw _ (List.mem_of_getElem? (i := 23) rfl))) (mvT hZ (hw _ (List.mem_of_getElem? (i := 24) rfl))) (mvT hZ (hw _ (List.mem_of_getElem? (i := 25) rfl))) (by decide) (backOf (W := 1) (rmZ8 l Z a0 hw []   h54 n0 Z54 ) hZ (hw _ (List.mem_of_getElem? (i := 25) rfl)) (hw _ (List.mem_of_getElem? (i := 24) rfl)) (by decide) (by decide)) (g := (mkF m 42 #[.val (.ref a1), .val (.int (8 : Int32)), .val (.int (16 : Int32))] [(.long (8 : Int64)), (.ref a1)])) rfl (by rw [hml]; rfl) (argsL := [(.long (8 : Int64))]) (rest := [(.ref a1)]) (lenOf pd_1 rfl) rfl (by show 2 * 0 + _ ≤ _; exact Nat.le_of_eq rfl) (hb hby d3_42) (fun _ _ => ⟨rfl, e56, (by decide : 1 + 0 ≤ _), (by decide : 16 + 0 ≤ _)⟩)
  dsimp only [Pt.U, Pt.locs, Pt.cells, Pt.slots] at X58 l58 y58 z58 st58 hQ58
  subst l58 y58 z58
  obtain ⟨r58, hr58, rfl, N58q, e58⟩ := hQ58
  have N58 := Fr.app N54 N58q
  subst hr58
  have f59 := (((((((((f4.wr W6).wr W12).wr W18).wr W24).wr W30).wr W36).wr W42).wr W48).wr W54)
  have f60 := ((((((((((F_shift.ext E2).other W6 (Or.inr (slot_ne (Or.inl (hw _ (List.mem_of_getElem? (i := 32) rfl))) (Or.inl (hw _ (List.mem_of_getElem? (i := 20) rfl))) (by decide) (t := .int) (t' := (.array .long)) (by decide) (by decide)))).other W12 (Or.inl ne3)).other W18 (Or.inl ne3)).other W24 (Or.inl ne3)).other W30 (Or.inl ne3)).other W36 (Or.inl ne3)).other W42 (Or.inl ne3)).other W48 (Or.inl ne3)).other W54 (Or.inl ne3))
  obtain ⟨T61, h61, X61, e61, W61, st61⟩ := putF X58 hx hZ hown (host := "") (Or.inl (hw _ (List.mem_of_getElem? (i := 31) rfl))) Via.refl e58 f60 f59 (Or.inl (hw _ (List.mem_of_getElem? (i := 32) rfl))) (hw _ (List.mem_of_getElem? (i := 7) rfl)) (ty := .int) (by decide) rfl rfl (g := (mkF m 47 #[.val (.ref a1), .val (.int (8 : Int32)), .val (.int (16 : Int32))] [(.int (61 : Int32)), (.ref a1)])) rfl rfl (hb hby d3_47)
  have N61 := Fr.snoc X61 N58 ga
  have Z61 : n0 ≤ h61.size := by rw [W61.size]; exact Z54
  have K61 : Keep h0 h61 [a1] := K54.wr W61 (Or.inl (List.mem_of_getElem? (i := 0) rfl))
  have Fw61 := f60.same W61
  obtain ⟨fs, hr, hrun, hended, hW, hsame⟩ := X61.leave (v := none) (fun _ => rfl)
  refine ⟨_, _, pre0 _ ?_, hrun, hended, _, _, rfl, ?_, ⟨_, rfl⟩, hW, hsame.mono (by decide) (by decide)⟩
  · show Steps p.tables e below (s₁.setTop (mkF m 0 #[.val (.ref a1), .val (.int (8 : Int32)), .unset] [])) _
    refine XS.aloadN X0.here hx rfl (hb hby d3_0) rfl rfl ?_
    show Steps p.tables e below (s₁.setTop (mkF m 1 #[.val (.ref a1), .val (.int (8 : Int32)), .unset] [(.ref a1)])) _
    refine st1 _ ?_
    show Steps p.tables e below (T1.setTop (mkF m 4 #[.val (.ref a1), .val (.int (8 : Int32)), .unset] [])) _
    refine XS.aloadN X1.here hx rfl (hb hby d3_4) rfl rfl ?_
    show Steps p.tables e below (T1.setTop (mkF m 5 #[.val (.ref a1), .val (.int (8 : Int32)), .unset] [(.ref a1)])) _
    refine XS.iconst X1.here hx rfl (hb hby d3_5) ?_
    show Steps p.tables e below (T1.setTop (mkF m 6 #[.val (.ref a1), .val (.int (8 : Int32)), .unset] [(.int (2 : Int32)), (.ref a1)])) _
    refine XS.iloadN X1.here hx rfl (hb hby d3_6) rfl ?_
    show Steps p.tables e below (T1.setTop (mkF m 7 #[.val (.ref a1), .val (.int (8 : Int32)), .unset] [(.int (8 : Int32)), (.int (2 : Int32)), (.ref a1)])) _
    refine XS.imul X1.here hx rfl (hb hby d3_7) rfl ?_
    show Steps p.tables e below (T1.setTop (mkF m 8 #[.val (.ref a1), .val (.int (8 : Int32)), .unset] [(.int (16 : Int32)), (.ref a1)])) _
    refine st2 _ ?_
    show Steps p.tables e below (T2.setTop (mkF m 10 #[.val (.ref a1), .val (.int (8 : Int32)), .unset] [(.ref b2o), (.ref a1)])) _
    refine st6 _ ?_
    show Steps p.tables e below (T6.setTop (mkF m 13 #[.val (.ref a1), .val (.int (8 : Int32)), .unset] [])) _
    refine XS.iconst X6.here hx rfl (hb hby d3_13) ?_
    show Steps p.tables e below (T6.setTop (mkF m 14 #[.val (.ref a1), .val (.int (8 : Int32)), .unset] [(.int (0 : Int32))])) _
    refine XS.istoreN X6.here hx rfl (hb hby d3_14) rfl (l' := #[.val (.ref a1), .val (.int (8 : Int32)), .val (.int (0 : Int32))]) rfl ?_
    show Steps p.tables e below (T6.setTop (mkF m 15 #[.val (.ref a1), .val (.int (8 : Int32)), .val (.int (0 : Int32))] [])) _
    refine XS.iloadN X6.here hx rfl (hb hby d3_15) rfl ?_
    show Steps p.tables e below (T6.setTop (mkF m 16 #[.val (.ref a1), .val (.int (8 : Int32)), .val (.int (0 : Int32))] [(.int (0 : Int32))])) _
    refine XS.aloadN X6.here hx rfl (hb hby d3_16) rfl rfl ?_
    show Steps p.tables e below (T6.setTop (mkF m 17 #[.val (.ref a1), .val (.int (8 : Int32)), .val (.int (0 : Int32))] [(.ref a1), (.int (0 : Int32))])) _
    refine st7 _ ?_
    show Steps p.tables e below (T7.setTop (mkF m 20 #[.val (.ref a1), .val (.int (8 : Int32)), .val (.int (0 : Int32))] [(.ref b2o), (.int (0 : Int32))])) _
    refine X7.arraylength hx (by rw [e7]; exact Ar9.1) (State.isArrayOf_alike hZ.alike Ar9.2.1) (g := (mkF m 20 #[.val (.ref a1), .val (.int (8 : Int32)), .val (.int (0 : Int32))] [(.ref b2o), (.int (0 : Int32))])) rfl rfl (hb hby d3_20) _ ?_
    rw [len_of Sz9 Nn9]
    show Steps p.tables e below (T7.setTop (mkF m 21 #[.val (.ref a1), .val (.int (8 : Int32)), .val (.int (0 : Int32))] [(.int (16 : Int32)), (.int (0 : Int32))])) _
    refine XS.icmpNo X7.here hx rfl (hb hby d3_21) rfl (tlt (by decide)).2.1 ?_
    show Steps p.tables e below (T7.setTop (mkF m 24 #[.val (.ref a1), .val (.int (8 : Int32)), .val (.int (0 : Int32))] [])) _
    refine XS.aloadN X7.here hx rfl (hb hby d3_24) rfl rfl ?_
    show Steps p.tables e below (T7.setTop (mkF m 25 #[.val (.ref a1), .val (.int (8 : Int32)), .val (.int (0 : Int32))] [(.ref a1)])) _
    refine st10 _ ?_
    show Steps p.tables e below (T10.setTop (mkF m 28 #[.val (.ref a1), .val (.int (8 : Int32)), .val (.int (0 : Int32))] [(.ref b2o)])) _
    refine XS.iloadN X10.here hx rfl (hb hby d3_28) rfl ?_
    show Steps p.tables e below (T10.setTop (mkF m 29 #[.val (.ref a1), .val (.int (8 : Int32)), .val (.int (0 : Int32))] [(.int (0 : Int32)), (.ref b2o)])) _
    refine X10.ldc2Long hx hown (mvT hZ (hw _ (List.mem_of_getElem? (i := 21) rfl))) (g := (mkF m 29 #[.val (.ref a1), .val (.int (8 : Int32)), .val (.int (0 : Int32))] [(.int (0 : Int32)), (.ref b2o)])) rfl (hb hby d3_29) _ ?_
    show Steps p.tables e below (T10.setTop (mkF m 32 #[.val (.ref a1), .val (.int (8 : Int32)), .val (.int (0 : Int32))] [(.long (-9223372036854775808 : Int64)), (.int (0 : Int32)), (.ref b2o)])) _
    refine st12 _ ?_
    show Steps p.tables e below (T12.setTop (mkF m 33 #[.val (.ref a1), .val (.int (8 : Int32)), .val (.int (0 : Int32))] [])) _
    refine XS.iinc X12.here hx rfl (hb hby d3_33) rfl (l' := #[.val (.ref a1), .val (.int (8 : Int32)), .val (.int (2 : Int32))]) rfl ?_
    show Steps p.tables e below (T12.setTop (mkF m 36 #[.val (.ref a1), .val (.int (8 : Int32)), .val (.int (2 : Int32))] [])) _
    refine XS.goto X12.here hx rfl (pc0 := 36) (pc' := 15) rfl (hb hby d3_36) (by decide) (by decide) ?_
    show Steps p.tables e below (T12.setTop (mkF m 15 #[.val (.ref a1), .val (.int (8 : Int32)), .val (.int (2 : Int32))] [])) _
    refine XS.iloadN X12.here hx rfl (hb hby d3_15) rfl ?_
    show Steps p.tables e below (T12.setTop (mkF m 16 #[.val (.ref a1), .val (.int (8 : Int32)), .val (.int (2 : Int32))] [(.int (2 : Int32))])) _
    refine XS.aloadN X12.here hx rfl (hb hby d3_16) rfl rfl ?_
    show Steps p.tables e below (T12.setTop (mkF m 17 #[.val (.ref a1), .val (.int (8 : Int32)), .val (.int (2 : Int32))] [(.ref a1), (.int (2 : Int32))])) _
    refine st14 _ ?_
    show Steps p.tables e below (T14.setTop (mkF m 20 #[.val (.ref a1), .val (.int (8 : Int32)), .val (.int (2 : Int32))] [(.ref b2o), (.int (2 : Int32))])) _
    refine X14.arraylength hx (by rw [e14]; exact Ar15.1) (State.isArrayOf_alike hZ.alike Ar15.2.1) (g := (mkF m 20 #[.val (.ref a1), .val (.int (8 : Int32)), .val (.int (2 : Int32))] [(.ref b2o), (.int (2 : Int32))])) rfl rfl (hb hby d3_20) _ ?_
    rw [len_of Sz15 Nn15]
    show Steps p.tables e below (T14.setTop (mkF m 21 #[.val (.ref a1), .val (.int (8 : Int32)), .val (.int (2 : Int32))] [(.int (16 : Int32)), (.int (2 : Int32))])) _
    refine XS.icmpNo X14.here hx rfl (hb hby d3_21) rfl (tlt (by decide)).2.1 ?_
    show Steps p.tables e below (T14.setTop (mkF m 24 #[.val (.ref a1), .val (.int (8 : Int32)), .val (.int (2 : Int32))] [])) _
    refine XS.aloadN X14.here hx rfl (hb hby d3_24) rfl rfl ?_
    show Steps p.tables e below (T14.setTop (mkF m 25 #[.val (.ref a1), .val (.int (8 : Int32)), .val (.int (2 : Int32))] [(.ref a1)])) _
    refine st16 _ ?_
    show Steps p.tables e below (T16.setTop (mkF m 28 #[.val (.ref a1), .val (.int (8 : Int32)), .val (.int (2 : Int32))] [(.ref b2o)])) _
    refine XS.iloadN X16.here hx rfl (hb hby d3_28) rfl ?_
    show Steps p.tables e below (T16.setTop (mkF m 29 #[.val (.ref a1), .val (.int (8 : Int32)), .val (.int (2 : Int32))] [(.int (2 : Int32)), (.ref b2o)])) _
    refine X16.ldc2Long hx hown (mvT hZ (hw _ (List.mem_of_getElem? (i := 21) rfl))) (g := (mkF m 29 #[.val (.ref a1), .val (.int (8 : Int32)), .val (.int (2 : Int32))] [(.int (2 : Int32)), (.ref b2o)])) rfl (hb hby d3_29) _ ?_
    show Steps p.tables e below (T16.setTop (mkF m 32 #[.val (.ref a1), .val (.int (8 : Int32)), .val (.int (2 : Int32))] [(.long (-9223372036854775808 : Int64)), (.int (2 : Int32)), (.ref b2o)])) _
    refine st18 _ ?_
    show Steps p.tables e below (T18.setTop (mkF m 33 #[.val (.ref a1), .val (.int (8 : Int32)), .val (.int (2 : Int32))] [])) _
    refine XS.iinc X18.here hx rfl (hb hby d3_33) rfl (l' := #[.val (.ref a1), .val (.int (8 : Int32)), .val (.int (4 : Int32))]) rfl ?_
    show Steps p.tables e below (T18.setTop (mkF m 36 #[.val (.ref a1), .val (.int (8 : Int32)), .val (.int (4 : Int32))] [])) _
    refine XS.goto X18.here hx rfl (pc0 := 36) (pc' := 15) rfl (hb hby d3_36) (by decide) (by decide) ?_
    show Steps p.tables e below (T18.setTop (mkF m 15 #[.val (.ref a1), .val (.int (8 : Int32)), .val (.int (4 : Int32))] [])) _
    refine XS.iloadN X18.here hx rfl (hb hby d3_15) rfl ?_
    show Steps p.tables e below (T18.setTop (mkF m 16 #[.val (.ref a1), .val (.int (8 : Int32)), .val (.int (4 : Int32))] [(.int (4 : Int32))])) _
    refine XS.aloadN X18.here hx rfl (hb hby d3_16) rfl rfl ?_
    show Steps p.tables e below (T18.setTop (mkF m 17 #[.val (.ref a1), .val (.int (8 : Int32)), .val (.int (4 : Int32))] [(.ref a1), (.int (4 : Int32))])) _
    refine st20 _ ?_
    show Steps p.tables e below (T20.setTop (mkF m 20 #[.val (.ref a1), .val (.int (8 : Int32)), .val (.int (4 : Int32))] [(.ref b2o), (.int (4 : Int32))])) _
    refine X20.arraylength hx (by rw [e20]; exact Ar21.1) (State.isArrayOf_alike hZ.alike Ar21.2.1) (g := (mkF m 20 #[.val (.ref a1), .val (.int (8 : Int32)), .val (.int (4 : Int32))] [(.ref b2o), (.int (4 : Int32))])) rfl rfl (hb hby d3_20) _ ?_
    rw [len_of Sz21 Nn21]
    show Steps p.tables e below (T20.setTop (mkF m 21 #[.val (.ref a1), .val (.int (8 : Int32)), .val (.int (4 : Int32))] [(.int (16 : Int32)), (.int (4 : Int32))])) _
    refine XS.icmpNo X20.here hx rfl (hb hby d3_21) rfl (tlt (by decide)).2.1 ?_
    show Steps p.tables e below (T20.setTop (mkF m 24 #[.val (.ref a1), .val (.int (8 : Int32)), .val (.int (4 : Int32))] [])) _
    refine XS.aloadN X20.here hx rfl (hb hby d3_24) rfl rfl ?_
    show Steps p.tables e below (T20.setTop (mkF m 25 #[.val (.ref a1), .val (.int (8 : Int32)), .val (.int (4 : Int32))] [(.ref a1)])) _
    refine st22 _ ?_
    show Steps p.tables e below (T22.setTop (mkF m 28 #[.val (.ref a1), .val (.int (8 : Int32)), .val (.int (4 : Int32))] [(.ref b2o)])) _
    refine XS.iloadN X22.here hx rfl (hb hby d3_28) rfl ?_
    show Steps p.tables e below (T22.setTop (mkF m 29 #[.val (.ref a1), .val (.int (8 : Int32)), .val (.int (4 : Int32))] [(.int (4 : Int32)), (.ref b2o)])) _
    refine X22.ldc2Long hx hown (mvT hZ (hw _ (List.mem_of_getElem? (i := 21) rfl))) (g := (mkF m 29 #[.val (.ref a1), .val (.int (8 : Int32)), .val (.int (4 : Int32))] [(.int (4 : Int32)), (.ref b2o)])) rfl (hb hby d3_29) _ ?_
    show Steps p.tables e below (T22.setTop (mkF m 32 #[.val (.ref a1), .val (.int (8 : Int32)), .val (.int (4 : Int32))] [(.long (-9223372036854775808 : Int64)), (.int (4 : Int32)), (.ref b2o)])) _
    refine st24 _ ?_
    show Steps p.tables e below (T24.setTop (mkF m 33 #[.val (.ref a1), .val (.int (8 : Int32)), .val (.int (4 : Int32))] [])) _
    refine XS.iinc X24.here hx rfl (hb hby d3_33) rfl (l' := #[.val (.ref a1), .val (.int (8 : Int32)), .val (.int (6 : Int32))]) rfl ?_
    show Steps p.tables e below (T24.setTop (mkF m 36 #[.val (.ref a1), .val (.int (8 : Int32)), .val (.int (6 : Int32))] [])) _
    refine XS.goto X24.here hx rfl (pc0 := 36) (pc' := 15) rfl (hb hby d3_36) (by decide) (by decide) ?_
    show Steps p.tables e below (T24.setTop (mkF m 15 #[.val (.ref a1), .val (.int (8 : Int32)), .val (.int (6 : Int32))] [])) _
    refine XS.iloadN X24.here hx rfl (hb hby d3_15) rfl ?_
    show Steps p.tables e below (T24.setTop (mkF m 16 #[.val (.ref a1), .val (.int (8 : Int32)), .val (.int (6 : Int32))] [(.int (6 : Int32))])) _
    refine XS.aloadN X24.here hx rfl (hb hby d3_16) rfl rfl ?_
    show Steps p.tables e below (T24.setTop (mkF m 17 #[.val (.ref a1), .val (.int (8 : Int32)), .val (.int (6 : Int32))] [(.ref a1), (.int (6 : Int32))])) _
    refine st26 _ ?_
    show Steps p.tables e below (T26.setTop (mkF m 20 #[.val (.ref a1), .val (.int (8 : Int32)), .val (.int (6 : Int32))] [(.ref b2o), (.int (6 : Int32))])) _
    refine X26.arraylength hx (by rw [e26]; exact Ar27.1) (State.isArrayOf_alike hZ.alike Ar27.2.1) (g := (mkF m 20 #[.val (.ref a1), .val (.int (8 : Int32)), .val (.int (6 : Int32))] [(.ref b2o), (.int (6 : Int32))])) rfl rfl (hb hby d3_20) _ ?_
    rw [len_of Sz27 Nn27]
    show Steps p.tables e below (T26.setTop (mkF m 21 #[.val (.ref a1), .val (.int (8 : Int32)), .val (.int (6 : Int32))] [(.int (16 : Int32)), (.int (6 : Int32))])) _
    refine XS.icmpNo X26.here hx rfl (hb hby d3_21) rfl (tlt (by decide)).2.1 ?_
    show Steps p.tables e below (T26.setTop (mkF m 24 #[.val (.ref a1), .val (.int (8 : Int32)), .val (.int (6 : Int32))] [])) _
    refine XS.aloadN X26.here hx rfl (hb hby d3_24) rfl rfl ?_
    show Steps p.tables e below (T26.setTop (mkF m 25 #[.val (.ref a1), .val (.int (8 : Int32)), .val (.int (6 : Int32))] [(.ref a1)])) _
    refine st28 _ ?_
    show Steps p.tables e below (T28.setTop (mkF m 28 #[.val (.ref a1), .val (.int (8 : Int32)), .val (.int (6 : Int32))] [(.ref b2o)])) _
    refine XS.iloadN X28.here hx rfl (hb hby d3_28) rfl ?_
    show Steps p.tables e below (T28.setTop (mkF m 29 #[.val (.ref a1), .val (.int (8 : Int32)), .val (.int (6 : Int32))] [(.int (6 : Int32)), (.ref b2o)])) _
    refine X28.ldc2Long hx hown (mvT hZ (hw _ (List.mem_of_getElem? (i := 21) rfl))) (g := (mkF m 29 #[.val (.ref a1), .val (.int (8 : Int32)), .val (.int (6 : Int32))] [(.int (6 : Int32)), (.ref b2o)])) rfl (hb hby d3_29) _ ?_
    show Steps p.tables e below (T28.setTop (mkF m 32 #[.val (.ref a1), .val (.int (8 : Int32)), .val (.int (6 : Int32))] [(.long (-9223372036854775808 : Int64)), (.int (6 : Int32)), (.ref b2o)])) _
    refine st30 _ ?_
    show Steps p.tables e below (T30.setTop (mkF m 33 #[.val (.ref a1), .val (.int (8 : Int32)), .val (.int (6 : Int32))] [])) _
    refine XS.iinc X30.here hx rfl (hb hby d3_33) rfl (l' := #[.val (.ref a1), .val (.int (8 : Int32)), .val (.int (8 : Int32))]) rfl ?_
    show Steps p.tables e below (T30.setTop (mkF m 36 #[.val (.ref a1), .val (.int (8 : Int32)), .val (.int (8 : Int32))] [])) _
    refine XS.goto X30.here hx rfl (pc0 := 36) (pc' := 15) rfl (hb hby d3_36) (by decide) (by decide) ?_
    show Steps p.tables e below (T30.setTop (mkF m 15 #[.val (.ref a1), .val (.int (8 : Int32)), .val (.int (8 : Int32))] [])) _
    refine XS.iloadN X30.here hx rfl (hb hby d3_15) rfl ?_
    show Steps p.tables e below (T30.setTop (mkF m 16 #[.val (.ref a1), .val (.int (8 : Int32)), .val (.int (8 : Int32))] [(.int (8 : Int32))])) _
    refine XS.aloadN X30.here hx rfl (hb hby d3_16) rfl rfl ?_
    show Steps p.tables e below (T30.setTop (mkF m 17 #[.val (.ref a1), .val (.int (8 : Int32)), .val (.int (8 : Int32))] [(.ref a1), (.int (8 : Int32))])) _
    refine st32 _ ?_
    show Steps p.tables e below (T32.setTop (mkF m 20 #[.val (.ref a1), .val (.int (8 : Int32)), .val (.int (8 : Int32))] [(.ref b2o), (.int (8 : Int32))])) _
    refine X32.arraylength hx (by rw [e32]; exact Ar33.1) (State.isArrayOf_alike hZ.alike Ar33.2.1) (g := (mkF m 20 #[.val (.ref a1), .val (.int (8 : Int32)), .val (.int (8 : Int32))] [(.ref b2o), (.int (8 : Int32))])) rfl rfl (hb hby d3_20) _ ?_
    rw [len_of Sz33 Nn33]
    show Steps p.tables e below (T32.setTop (mkF m 21 #[.val (.ref a1), .val (.int (8 : Int32)), .val (.int (8 : Int32))] [(.int (16 : Int32)), (.int (8 : Int32))])) _
    refine XS.icmpNo X32.here hx rfl (hb hby d3_21) rfl (tlt (by decide)).2.1 ?_
    show Steps p.tables e below (T32.setTop (mkF m 24 #[.val (.ref a1), .val (.int (8 : Int32)), .val (.int (8 : Int32))] [])) _
    refine XS.aloadN X32.here hx rfl (hb hby d3_24) rfl rfl ?_
    show Steps p.tables e below (T32.setTop (mkF m 25 #[.val (.ref a1), .val (.int (8 : Int32)), .val (.int (8 : Int32))] [(.ref a1)])) _
    refine st34 _ ?_
    show Steps p.tables e below (T34.setTop (mkF m 28 #[.val (.ref a1), .val (.int (8 : Int32)), .val (.int (8 : Int32))] [(.ref b2o)])) _
    refine XS.iloadN X34.here hx rfl (hb hby d3_28) rfl ?_
    show Steps p.tables e below (T34.setTop (mkF m 29 #[.val (.ref a1), .val (.int (8 : Int32)), .val (.int (8 : Int32))] [(.int (8 : Int32)), (.ref b2o)])) _
    refine X34.ldc2Long hx hown (mvT hZ (hw _ (List.mem_of_getElem? (i := 21) rfl))) (g := (mkF m 29 #[.val (.ref a1), .val (.int (8 : Int32)), .val (.int (8 : Int32))] [(.int (8 : Int32)), (.ref b2o)])) rfl (hb hby d3_29) _ ?_
    show Steps p.tables e below (T34.setTop (mkF m 32 #[.val (.ref a1), .val (.int (8 : Int32)), .val (.int (8 : Int32))] [(.long (-9223372036854775808 : Int64)), (.int (8 : Int32)), (.ref b2o)])) _
    refine st36 _ ?_
    show Steps p.tables e below (T36.setTop (mkF m 33 #[.val (.ref a1), .val (.int (8 : Int32)), .val (.int (8 : Int32))] [])) _
    refine XS.iinc X36.here hx rfl (hb hby d3_33) rfl (l' := #[.val (.ref a1), .val (.int (8 : Int32)), .val (.int (10 : Int32))]) rfl ?_
    show Steps p.tables e below (T36.setTop (mkF m 36 #[.val (.ref a1), .val (.int (8 : Int32)), .val (.int (10 : Int32))] [])) _
    refine XS.goto X36.here hx rfl (pc0 := 36) (pc' := 15) rfl (hb hby d3_36) (by decide) (by decide) ?_
    show Steps p.tables e below (T36.setTop (mkF m 15 #[.val (.ref a1), .val (.int (8 : Int32)), .val (.int (10 : Int32))] [])) _
    refine XS.iloadN X36.here hx rfl (hb hby d3_15) rfl ?_
    show Steps p.tables e below (T36.setTop (mkF m 16 #[.val (.ref a1), .val (.int (8 : Int32)), .val (.int (10 : Int32))] [(.int (10 : Int32))])) _
    refine XS.aloadN X36.here hx rfl (hb hby d3_16) rfl rfl ?_
    show Steps p.tables e below (T36.setTop (mkF m 17 #[.val (.ref a1), .val (.int (8 : Int32)), .val (.int (10 : Int32))] [(.ref a1), (.int (10 : Int32))])) _
    refine st38 _ ?_
    show Steps p.tables e below (T38.setTop (mkF m 20 #[.val (.ref a1), .val (.int (8 : Int32)), .val (.int (10 : Int32))] [(.ref b2o), (.int (10 : Int32))])) _
    refine X38.arraylength hx (by rw [e38]; exact Ar39.1) (State.isArrayOf_alike hZ.alike Ar39.2.1) (g := (mkF m 20 #[.val (.ref a1), .val (.int (8 : Int32)), .val (.int (10 : Int32))] [(.ref b2o), (.int (10 : Int32))])) rfl rfl (hb hby d3_20) _ ?_
    rw [len_of Sz39 Nn39]
    show Steps p.tables e below (T38.setTop (mkF m 21 #[.val (.ref a1), .val (.int (8 : Int32)), .val (.int (10 : Int32))] [(.int (16 : Int32)), (.int (10 : Int32))])) _
    refine XS.icmpNo X38.here hx rfl (hb hby d3_21) rfl (tlt (by decide)).2.1 ?_
    show Steps p.tables e below (T38.setTop (mkF m 24 #[.val (.ref a1), .val (.int (8 : Int32)), .val (.int (10 : Int32))] [])) _
    refine XS.aloadN X38.here hx rfl (hb hby d3_24) rfl rfl ?_
    show Steps p.tables e below (T38.setTop (mkF m 25 #[.val (.ref a1), .val (.int (8 : Int32)), .val (.int (10 : Int32))] [(.ref a1)])) _
    refine st40 _ ?_
    show Steps p.tables e below (T40.setTop (mkF m 28 #[.val (.ref a1), .val (.int (8 : Int32)), .val (.int (10 : Int32))] [(.ref b2o)])) _
    refine XS.iloadN X40.here hx rfl (hb hby d3_28) rfl ?_
    show Steps p.tables e below (T40.setTop (mkF m 29 #[.val (.ref a1), .val (.int (8 : Int32)), .val (.int (10 : Int32))] [(.int (10 : Int32)), (.ref b2o)])) _
    refine X40.ldc2Long hx hown (mvT hZ (hw _ (List.mem_of_getElem? (i := 21) rfl))) (g := (mkF m 29 #[.val (.ref a1), .val (.int (8 : Int32)), .val (.int (10 : Int32))] [(.int (10 : Int32)), (.ref b2o)])) rfl (hb hby d3_29) _ ?_
    show Steps p.tables e below (T40.setTop (mkF m 32 #[.val (.ref a1), .val (.int (8 : Int32)), .val (.int (10 : Int32))] [(.long (-9223372036854775808 : Int64)), (.int (10 : Int32)), (.ref b2o)])) _
    refine st42 _ ?_
    show Steps p.tables e below (T42.setTop (mkF m 33 #[.val (.ref a1), .val (.int (8 : Int32)), .val (.int (10 : Int32))] [])) _
    refine XS.iinc X42.here hx rfl (hb hby d3_33) rfl (l' := #[.val (.ref a1), .val (.int (8 : Int32)), .val (.int (12 : Int32))]) rfl ?_
    show Steps p.tables e below (T42.setTop (mkF m 36 #[.val (.ref a1), .val (.int (8 : Int32)), .val (.int (12 : Int32))] [])) _
    refine XS.goto X42.here hx rfl (pc0 := 36) (pc' := 15) rfl (hb hby d3_36) (by decide) (by decide) ?_
    show Steps p.tables e below (T42.setTop (mkF m 15 #[.val (.ref a1), .val (.int (8 : Int32)), .val (.int (12 : Int32))] [])) _
    refine XS.iloadN X42.here hx rfl (hb hby d3_15) rfl ?_
    show Steps p.tables e below (T42.setTop (mkF m 16 #[.val (.ref a1), .val (.int (8 : Int32)), .val (.int (12 : Int32))] [(.int (12 : Int32))])) _
    refine XS.aloadN X42.here hx rfl (hb hby d3_16) rfl rfl ?_
    show Steps p.tables e below (T42.setTop (mkF m 17 #[.val (.ref a1), .val (.int (8 : Int32)), .val (.int (12 : Int32))] [(.ref a1), (.int (12 : Int32))])) _
    refine st44 _ ?_
    show Steps p.tables e below (T44.setTop (mkF m 20 #[.val (.ref a1), .val (.int (8 : Int32)), .val (.int (12 : Int32))] [(.ref b2o), (.int (12 : Int32))])) _
    refine X44.arraylength hx (by rw [e44]; exact Ar45.1) (State.isArrayOf_alike hZ.alike Ar45.2.1) (g := (mkF m 20 #[.val (.ref a1), .val (.int (8 : Int32)), .val (.int (12 : Int32))] [(.ref b2o), (.int (12 : Int32))])) rfl rfl (hb hby d3_20) _ ?_
    rw [len_of Sz45 Nn45]
    show Steps p.tables e below (T44.setTop (mkF m 21 #[.val (.ref a1), .val (.int (8 : Int32)), .val (.int (12 : Int32))] [(.int (16 : Int32)), (.int (12 : Int32))])) _
    refine XS.icmpNo X44.here hx rfl (hb hby d3_21) rfl (tlt (by decide)).2.1 ?_
    show Steps p.tables e below (T44.setTop (mkF m 24 #[.val (.ref a1), .val (.int (8 : Int32)), .val (.int (12 : Int32))] [])) _
    refine XS.aloadN X44.here hx rfl (hb hby d3_24) rfl rfl ?_
    show Steps p.tables e below (T44.setTop (mkF m 25 #[.val (.ref a1), .val (.int (8 : Int32)), .val (.int (12 : Int32))] [(.ref a1)])) _
    refine st46 _ ?_
    show Steps p.tables e below (T46.setTop (mkF m 28 #[.val (.ref a1), .val (.int (8 : Int32)), .val (.int (12 : Int32))] [(.ref b2o)])) _
    refine XS.iloadN X46.here hx rfl (hb hby d3_28) rfl ?_
    show Steps p.tables e below (T46.setTop (mkF m 29 #[.val (.ref a1), .val (.int (8 : Int32)), .val (.int (12 : Int32))] [(.int (12 : Int32)), (.ref b2o)])) _
    refine X46.ldc2Long hx hown (mvT hZ (hw _ (List.mem_of_getElem? (i := 21) rfl))) (g := (mkF m 29 #[.val (.ref a1), .val (.int (8 : Int32)), .val (.int (12 : Int32))] [(.int (12 : Int32)), (.ref b2o)])) rfl (hb hby d3_29) _ ?_
    show Steps p.tables e below (T46.setTop (mkF m 32 #[.val (.ref a1), .val (.int (8 : Int32)), .val (.int (12 : Int32))] [(.long (-9223372036854775808 : Int64)), (.int (12 : Int32)), (.ref b2o)])) _
    refine st48 _ ?_
    show Steps p.tables e below (T48.setTop (mkF m 33 #[.val (.ref a1), .val (.int (8 : Int32)), .val (.int (12 : Int32))] [])) _
    refine XS.iinc X48.here hx rfl (hb hby d3_33) rfl (l' := #[.val (.ref a1), .val (.int (8 : Int32)), .val (.int (14 : Int32))]) rfl ?_
    show Steps p.tables e below (T48.setTop (mkF m 36 #[.val (.ref a1), .val (.int (8 : Int32)), .val (.int (14 : Int32))] [])) _
    refine XS.goto X48.here hx rfl (pc0 := 36) (pc' := 15) rfl (hb hby d3_36) (by decide) (by decide) ?_
    show Steps p.tables e below (T48.setTop (mkF m 15 #[.val (.ref a1), .val (.int (8 : Int32)), .val (.int (14 : Int32))] [])) _
    refine XS.iloadN X48.here hx rfl (hb hby d3_15) rfl ?_
    show Steps p.tables e below (T48.setTop (mkF m 16 #[.val (.ref a1), .val (.int (8 : Int32)), .val (.int (14 : Int32))] [(.int (14 : Int32))])) _
    refine XS.aloadN X48.here hx rfl (hb hby d3_16) rfl rfl ?_
    show Steps p.tables e below (T48.setTop (mkF m 17 #[.val (.ref a1), .val (.int (8 : Int32)), .val (.int (14 : Int32))] [(.ref a1), (.int (14 : Int32))])) _
    refine st50 _ ?_
    show Steps p.tables e below (T50.setTop (mkF m 20 #[.val (.ref a1), .val (.int (8 : Int32)), .val (.int (14 : Int32))] [(.ref b2o), (.int (14 : Int32))])) _
    refine X50.arraylength hx (by rw [e50]; exact Ar51.1) (State.isArrayOf_alike hZ.alike Ar51.2.1) (g := (mkF m 20 #[.val (.ref a1), .val (.int (8 : Int32)), .val (.int (14 : Int32))] [(.ref b2o), (.int (14 : Int32))])) rfl rfl (hb hby d3_20) _ ?_
    rw [len_of Sz51 Nn51]
    show Steps p.tables e below (T50.setTop (mkF m 21 #[.val (.ref a1), .val (.int (8 : Int32)), .val (.int (14 : Int32))] [(.int (16 : Int32)), (.int (14 : Int32))])) _
    refine XS.icmpNo X50.here hx rfl (hb hby d3_21) rfl (tlt (by decide)).2.1 ?_
    show Steps p.tables e below (T50.setTop (mkF m 24 #[.val (.ref a1), .val (.int (8 : Int32)), .val (.int (14 : Int32))] [])) _
    refine XS.aloadN X50.here hx rfl (hb hby d3_24) rfl rfl ?_
    show Steps p.tables e below (T50.setTop (mkF m 25 #[.val (.ref a1), .val (.int (8 : Int32)), .val (.int (14 : Int32))] [(.ref a1)])) _
    refine st52 _ ?_
    show Steps p.tables e below (T52.setTop (mkF m 28 #[.val (.ref a1), .val (.int (8 : Int32)), .val (.int (14 : Int32))] [(.ref b2o)])) _
    refine XS.iloadN X52.here hx rfl (hb hby d3_28) rfl ?_
    show Steps p.tables e below (T52.setTop (mkF m 29 #[.val (.ref a1), .val (.int (8 : Int32)), .val (.int (14 : Int32))] [(.int (14 : Int32)), (.ref b2o)])) _
    refine X52.ldc2Long hx hown (mvT hZ (hw _ (List.mem_of_getElem? (i := 21) rfl))) (g := (mkF m 29 #[.val (.ref a1), .val (.int (8 : Int32)), .val (.int (14 : Int32))] [(.int (14 : Int32)), (.ref b2o)])) rfl (hb hby d3_29) _ ?_
    show Steps p.tables e below (T52.setTop (mkF m 32 #[.val (.ref a1), .val (.int (8 : Int32)), .val (.int (14 : Int32))] [(.long (-9223372036854775808 : Int64)), (.int (14 : Int32)), (.ref b2o)])) _
    refine st54 _ ?_
    show Steps p.tables e below (T54.setTop (mkF m 33 #[.val (.ref a1), .val (.int (8 : Int32)), .val (.int (14 : Int32))] [])) _
    refine XS.iinc X54.here hx rfl (hb hby d3_33) rfl (l' := #[.val (.ref a1), .val (.int (8 : Int32)), .val (.int (16 : Int32))]) rfl ?_
    show Steps p.tables e below (T54.setTop (mkF m 36 #[.val (.ref a1), .val (.int (8 : Int32)), .val (.int (16 : Int32))] [])) _
    refine XS.goto X54.here hx rfl (pc0 := 36) (pc' := 15) rfl (hb hby d3_36) (by decide) (by decide) ?_
    show Steps p.tables e below (T54.setTop (mkF m 15 #[.val (.ref a1), .val (.int (8 : Int32)), .val (.int (16 : Int32))] [])) _
    refine XS.iloadN X54.here hx rfl (hb hby d3_15) rfl ?_
    show Steps p.tables e below (T54.setTop (mkF m 16 #[.val (.ref a1), .val (.int (8 : Int32)), .val (.int (16 : Int32))] [(.int (16 : Int32))])) _
    refine XS.aloadN X54.here hx rfl (hb hby d3_16) rfl rfl ?_
    show Steps p.tables e below (T54.setTop (mkF m 17 #[.val (.ref a1), .val (.int (8 : Int32)), .val (.int (16 : Int32))] [(.ref a1), (.int (16 : Int32))])) _
    refine st56 _ ?_
    show Steps p.tables e below (T56.setTop (mkF m 20 #[.val (.ref a1), .val (.int (8 : Int32)), .val (.int (16 : Int32))] [(.ref b2o), (.int (16 : Int32))])) _
    refine X56.arraylength hx (by rw [e56]; exact Ar57.1) (State.isArrayOf_alike hZ.alike Ar57.2.1) (g := (mkF m 20 #[.val (.ref a1), .val (.int (8 : Int32)), .val (.int (16 : Int32))] [(.ref b2o), (.int (16 : Int32))])) rfl rfl (hb hby d3_20) _ ?_
    rw [len_of Sz57 Nn57]
    show Steps p.tables e below (T56.setTop (mkF m 21 #[.val (.ref a1), .val (.int (8 : Int32)), .val (.int (16 : Int32))] [(.int (16 : Int32)), (.int (16 : Int32))])) _
    refine XS.icmpYes X56.here hx rfl (pc0 := 21) (pc' := 39) rfl (hb hby d3_21) rfl (flt (by decide)).2.1 (by decide) (by decide) ?_
    show Steps p.tables e below (T56.setTop (mkF m 39 #[.val (.ref a1), .val (.int (8 : Int32)), .val (.int (16 : Int32))] [])) _
    refine XS.aloadN X56.here hx rfl (hb hby d3_39) rfl rfl ?_
    show Steps p.tables e below (T56.setTop (mkF m 40 #[.val (.ref a1), .val (.int (8 : Int32)), .val (.int (16 : Int32))] [(.ref a1)])) _
    refine XS.iloadN X56.here hx rfl (hb hby d3_40) rfl ?_
    show Steps p.tables e below (T56.setTop (mkF m 41 #[.val (.ref a1), .val (.int (8 : Int32)), .val (.int (16 : Int32))] [(.int (8 : Int32)), (.ref a1)])) _
    refine XS.i2l X56.here hx rfl (hb hby d3_41) rfl ?_
    show Steps p.tables e below (T56.setTop (mkF m 42 #[.val (.ref a1), .val (.int (8 : Int32)), .val (.int (16 : Int32))] [(.long (8 : Int64)), (.ref a1)])) _
    refine st58 _ ?_
    show Steps p.tables e below (T58.setTop (mkF m 45 #[.val (.ref a1), .val (.int (8 : Int32)), .val (.int (16 : Int32))] [(.int (60 : Int32)), (.ref a1)])) _
    refine XS.iconst X58.here hx rfl (hb hby d3_45) ?_
    show Steps p.tables e below (T58.setTop (mkF m 46 #[.val (.ref a1), .val (.int (8 : Int32)), .val (.int (16 : Int32))] [(.int (1 : Int32)), (.int (60 : Int32)), (.ref a1)])) _
    refine XS.iadd X58.here hx rfl (hb hby d3_46) rfl ?_
    show Steps p.tables e below (T58.setTop (mkF m 47 #[.val (.ref a1), .val (.int (8 : Int32)), .val (.int (16 : Int32))] [(.int (61 : Int32)), (.ref a1)])) _
    refine st61 _ ?_
    show Steps p.tables e below (T61.setTop (mkF m 50 #[.val (.ref a1), .val (.int (8 : Int32)), .val (.int (16 : Int32))] [])) _
    exact X61.returnOut hx Bd.returns (hb hby d3_50) hr
  · show QrmI8 Z a1 h0 n0 _ T61.heap _
    have f62 := (f59.wr W61)
    have f63 := (f55.other W61 (Or.inr (slot_ne (Or.inl (hw _ (List.mem_of_getElem? (i := 20) rfl))) (Or.inl (hw _ (List.mem_of_getElem? (i := 32) rfl))) (by decide) (t := (.array .long)) (t' := .int) (by decide) (by decide))))
    have f64 := (((((((((((F_size.ext E2).other W6 (Or.inr (slot_ne (Or.inl (hw _ (List.mem_of_getElem? (i := 49) rfl))) (Or.inl (hw _ (List.mem_of_getElem? (i := 20) rfl))) (by decide) (t := .int) (t' := (.array .long)) (by decide) (by decide)))).other W12 (Or.inl ne3)).other W18 (Or.inl ne3)).other W24 (Or.inl ne3)).other W30 (Or.inl ne3)).other W36 (Or.inl ne3)).other W42 (Or.inl ne3)).other W48 (Or.inl ne3)).other W54 (Or.inl ne3)).other W61 (Or.inr (slot_ne (Or.inl (hw _ (List.mem_of_getElem? (i := 49) rfl))) (Or.inl (hw _ (List.mem_of_getElem? (i := 32) rfl))) (by decide) (t := .int) (t' := .int) (by decide) (by decide))))
    have f65 := (((((((((((F_sorted.ext E2).other W6 (Or.inr (slot_ne (Or.inl (hw _ (List.mem_of_getElem? (i := 47) rfl))) (Or.inl (hw _ (List.mem_of_getElem? (i := 20) rfl))) (by decide) (t := (.array .long)) (t' := (.array .long)) (by decide) (by decide)))).other W12 (Or.inl ne3)).other W18 (Or.inl ne3)).other W24 (Or.inl ne3)).other W30 (Or.inl ne3)).other W36 (Or.inl ne3)).other W42 (Or.inl ne3)).other W48 (Or.inl ne3)).other W54 (Or.inl ne3)).other W61 (Or.inr (slot_ne (Or.inl (hw _ (List.mem_of_getElem? (i := 47) rfl))) (Or.inl (hw _ (List.mem_of_getElem? (i := 32) rfl))) (by decide) (t := (.array .long)) (t' := .int) (by decide) (by decide))))
    have f66 := (V54.other W61 (Ne.symm ne3))
    rw [e61]
    exact ⟨rfl, N61, K61, b2o, _, b2, bk2, f62, f63, Fw61, f64, f65, f66⟩
theorem pd_2 : parseMethodDescriptor "(I)V" = some ⟨[.int], none⟩ := by decide +kernel
theorem d2_0 : decode prog_19_method_1_code 0 = .ok (.aload_n 0, 1) := by decide +kernel
theorem d2_1 : decode prog_19_method_1_code 1 = .ok (.iconst 4, 1) := by decide +kernel
theorem d2_2 : decode prog_19_method_1_code 2 = .ok (.invokespecial 5, 3) := by decide +kernel
theorem d2_5 : decode prog_19_method_1_code 5 = .ok (.return_, 1) := by decide +kernel
theorem pn_2 : plainName "com/example/pricewright/pricewright/core/LongSumTable" = true := by first | (simp [plainName, overriddenIn]; done) | decide +kernel
theorem ef_rmI0 (m : MethodId) (a1 : Addr) : entryFrame m #[(.ref a1)] 1 = mkF m 0 #[.val (.ref a1)] [] := by first | (simp [entryFrame, mkF, argsToLocals, Value.category]; done) | rfl
def QrmI0 (Z : State) (a1 : Addr) (h0 : Heap) (n0 : Nat) (v : Option Value) (h : Heap) (L : List Loc) : Prop := v = none ∧ Fr n0 L ∧ Keep h0 h [a1] ∧ ∃ (sa : Addr) (sk : ClassId), n0 ≤ sa ∧ h0.size ≤ sa ∧ Exa Z h a1 "com/example/pricewright/pricewright/core/LongSumTable" ∧ Fld Z h a1 "com/example/pricewright/pricewright/core/LongSumTable" "slots" "[J" (.ref sa) ∧ Fld Z h a1 "com/example/pricewright/pricewright/core/LongSumTable" "shift" "I" (.int (62 : Int32)) ∧ Fld Z h a1 "com/example/pricewright/pricewright/core/LongSumTable" "size" "I" (.int (0 : Int32)) ∧ Fld Z h a1 "com/example/pricewright/pricewright/core/LongSumTable" "sorted" "[J" .null ∧ Arv Z h sa sk .long (8 : Int32) (own_new4.map Value.long) (.long (0 : Int64))
set_option maxRecDepth 65536 in
set_option maxHeartbeats 40000000 in
theorem rmI0 (l : Launch) (Z : State) (a0 : Array Value) (hw : ∀ d ∈ tables_1, d.before a0 Z = true) (ws : List Jvm.Cond) (a1 : Addr) (h0 : Heap) (n0 : Nat) (Z0 : n0 ≤ h0.size) (E : Exa Z h0 a1 "com/example/pricewright/pricewright/core/LongSumTable") (F_slots : Fld Z h0 a1 "com/example/pricewright/pricewright/core/LongSumTable" "slots" "[J" .null) (F_shift : Fld Z h0 a1 "com/example/pricewright/pricewright/core/LongSumTable" "shift" "I" (.int (0 : Int32))) (F_size : Fld Z h0 a1 "com/example/pricewright/pricewright/core/LongSumTable" "size" "I" (.int (0 : Int32))) (F_sorted : Fld Z h0 a1 "com/example/pricewright/pricewright/core/LongSumTable" "sorted" "[J" .null) (ga : n0 ≤ a1) :
    MetFree l (⟨"com/example/pricewright/pricewright/core/LongSumTable", "<init>", "()V"⟩ : MethodName) (head1 (Jvm.Cond.code (⟨"com/example/pricewright/pricewright/core/LongSumTable", "<init>", "()V"⟩ : MethodName) prog_19_method_1_code 1 none :: ws) ({ frames := 3, cells := 1, slots := 8, locals := 43 } : Room)) (fun a U => a = #[(.ref a1)] ∧ Z.Warmed39 U.vm ∧ U.heap = h0) (fun _ _ _ _ _ => True) (fun _ U o U' => ∃ v L, o = .returned v ∧ QrmI0 Z a1 h0 n0 v U'.heap L ∧ FrameEnd U o U' L ({ frames := 3, cells := 1, slots := 8, locals := 43 } : Room).cells ({ frames := 3, cells := 1, slots := 8, locals := 43 } : Room).slots) := by
  refine MetFree.of_bodySF (plainFor_of_name pn_2) hisR ?_
  intro p e s m args below meth c s₁ Bd hml0 hP hK
  obtain ⟨rfl, hZ, hh⟩ := hP
  have hx := Bd.exec
  have hby := Bd.bytes
  have hml : c.maxLocals = 1 := hml0
  have hown : s.vm.findClass "com/example/pricewright/pricewright/core/LongSumTable" = some m.cls := findClass_of_methodNamed Bd.named
  have hnm := (name_of_methodNamed Bd.named Bd.method).1
  have X0 : Stand p l e ({ frames := 3, cells := 1, slots := 8, locals := 43 } : Room) s m #[(.ref a1)] below meth c s₁ [] 0 0 := Stand.of_body Bd
  have e0 : s₁.heap = h0 := by rw [← hh, Bd.state]; rfl
  have N0 := Fr.nil n0
  have pre0 : ∀ t, Steps p.tables e below (s₁.setTop (mkF m 0 #[.val (.ref a1)] [])) t → Steps p.tables e below (s₁.setTop (entryFrame m #[(.ref a1)] 1)) t := fun t k => castTop (ef_rmI0 m a1) k
  obtain ⟨_, _, ⟨T1, L1, k1, n1⟩, -, X1, ⟨Lc1, hQ1, l1, y1, z1⟩, st1⟩ := X0.specialBack hx (y := (⟨"com/example/pricewright/pricewright/core/LongSumTable", "<init>", "(I)V"⟩ : MethodName)) rfl hown (mvT hZ (hw _ (List.mem_of_getElem? (i := 12) rfl))) (mvT hZ (hw _ (List.mem_of_getElem? (i := 13) rfl))) (mvT hZ (hw _ (List.mem_of_getElem? (i := 14) rfl))) (by decide) (backOf (W := 0) (rmI4 l Z a0 hw [] a1  h0 n0 Z0 E F_slots F_shift F_size F_sorted ga) hZ (hw _ (List.mem_of_getElem? (i := 14) rfl)) (hw _ (List.mem_of_getElem? (i := 8) rfl)) (by decide) (by decide)) (g := (mkF m 2 #[.val (.ref a1)] [(.int (4 : Int32)), (.ref a1)])) rfl (by rw [hml]; rfl) (Steps.refl _) (a := a1) (argsL := [(.int (4 : Int32))]) (rest := []) (lenOf pd_2 rfl) rfl (by show 2 * 0 + _ ≤ _; exact Nat.le_of_eq rfl) (hb hby d2_2) (fun _ _ => ⟨rfl, e0, (by decide : 0 + 1 ≤ _), (by decide : 0 + 8 ≤ _)⟩)
  dsimp only [Pt.U, Pt.locs, Pt.cells, Pt.slots] at X1 l1 y1 z1 st1 hQ1
  subst l1 y1 z1
  obtain ⟨rfl, N1q, KC1, u1⟩ := hQ1
  have N1 := Fr.app N0 N1q
  have Z1 : n0 ≤ T1.heap.size := Nat.le_trans Z0 KC1.1
  have K1 : Keep h0 T1.heap [a1] := (Keep.refl h0 [a1]).trans KC1 (allS (Or.inl (List.mem_of_getElem? (i := 0) rfl)) all0)
  obtain ⟨sa1, sk1, ga1, gk1, EI1, FS1, FH1, FZ1, FQ1, AV1⟩ := id u1
  have net1 : a1 ≠ sa1 := ne_arrV (EI1) (hw _ (List.mem_of_getElem? (i := 7) rfl)) AV1
  obtain ⟨fs, hr, hrun, hended, hW, hsame⟩ := X1.leave (v := none) (fun _ => rfl)
  refine ⟨_, _, pre0 _ ?_, hrun, hended, _, _, rfl, ?_, ⟨_, rfl⟩, hW, hsame.mono (by decide) (by decide)⟩
  · show Steps p.tables e below (s₁.setTop (mkF m 0 #[.val (.ref a1)] [])) _
    refine XS.aloadN X0.here hx rfl (hb hby d2_0) rfl rfl ?_
    show Steps p.tables e below (s₁.setTop (mkF m 1 #[.val (.ref a1)] [(.ref a1)])) _
    refine XS.iconst X0.here hx rfl (hb hby d2_1) ?_
    show Steps p.tables e below (s₁.setTop (mkF m 2 #[.val (.ref a1)] [(.int (4 : Int32)), (.ref a1)])) _
    refine st1.trans ?_
    show Steps p.tables e below (T1.setTop (mkF m 5 #[.val (.ref a1)] [])) _
    exact X1.returnOut hx Bd.returns (hb hby d2_5) hr
  · show QrmI0 Z a1 h0 n0 _ T1.heap _
    exact ⟨rfl, N1, K1, u1⟩
theorem d9_23 : decode prog_19_method_8_code 23 = .ok (.aload_n 0, 1) := by decide +kernel
theorem d9_24 : decode prog_19_method_8_code 24 = .ok (.getfield 14, 3) := by decide +kernel
theorem d9_27 : decode prog_19_method_8_code 27 = .ok (.iload 4, 2) := by decide +kernel
theorem d9_29 : decode prog_19_method_8_code 29 = .ok (.laload, 1) := by decide +kernel
theorem d9_30 : decode prog_19_method_8_code 30 = .ok (.lload_n 1, 1) := by decide +kernel
theorem d9_31 : decode prog_19_method_8_code 31 = .ok (.lcmp, 1) := by decide +kernel
theorem d9_32 : decode prog_19_method_8_code 32 = .ok (.ifCond .eq 28, 3) := by decide +kernel
theorem d9_35 : decode prog_19_method_8_code 35 = .ok (.aload_n 0, 1) := by decide +kernel
theorem d9_36 : decode prog_19_method_8_code 36 = .ok (.getfield 14, 3) := by decide +kernel
theorem d9_39 : decode prog_19_method_8_code 39 = .ok (.iload 4, 2) := by decide +kernel
theorem d9_41 : decode prog_19_method_8_code 41 = .ok (.laload, 1) := by decide +kernel
theorem d9_42 : decode prog_19_method_8_code 42 = .ok (.ldc2_w 18, 3) := by decide +kernel
theorem d9_45 : decode prog_19_method_8_code 45 = .ok (.lcmp, 1) := by decide +kernel
theorem d9_46 : decode prog_19_method_8_code 46 = .ok (.ifCond .eq 14, 3) := by decide +kernel
theorem d9_49 : decode prog_19_method_8_code 49 = .ok (.iload 4, 2) := by decide +kernel
theorem d9_51 : decode prog_19_method_8_code 51 = .ok (.iconst 2, 1) := by decide +kernel
theorem d9_52 : decode prog_19_method_8_code 52 = .ok (.iadd, 1) := by decide +kernel
theorem d9_53 : decode prog_19_method_8_code 53 = .ok (.iload_n 3, 1) := by decide +kernel
theorem d9_54 : decode prog_19_method_8_code 54 = .ok (.iand, 1) := by decide +kernel
theorem d9_55 : decode prog_19_method_8_code 55 = .ok (.istore 4, 2) := by decide +kernel
theorem d9_57 : decode prog_19_method_8_code 57 = .ok (.goto (-34), 3) := by decide +kernel
set_option maxRecDepth 65536 in
set_option maxHeartbeats 40000000 in
theorem own_lp {p : Program} {l : Launch} {e : Env} {R : Room} {s : State} {m : MethodId} {args : Array Value} {below : List Frame} {meth : Method} {c : Code} {locs : List Loc} {cells slots : Nat} {Z : State} {a0 : Array Value} {h0 : Heap} {a1 : Addr} {q2 : Int64} {a : Addr} {k : ClassId} {arr : List Int64} {n : Nat} (hx : p.tables.exec = Jvm.exec) (hZ : Z.Warmed39 s.vm) (hw : ∀ d ∈ tables_1, d.before a0 Z = true) (hby : c.code = prog_19_method_8_code) (hml : c.maxLocals = 5) (hown : s.vm.findClass "com/example/pricewright/pricewright/core/LongSumTable" = some m.cls) (hn : n = 4 ∨ n = 8) (FS : Fld Z h0 a1 "com/example/pricewright/pricewright/core/LongSumTable" "slots" "[J" (.ref a)) (AV : Arv Z h0 a k .long (Int32.ofNat (2 * n)) (arr.map Value.long) (.long (0 : Int64))) (f : Nat) :
    ∀ (T0 : State) (i : Nat), i < n → own_K arr ((i + f) % n) = own_FREE → Stand p l e R s m args below meth c T0 locs cells slots → T0.heap = h0 → ∃ (T' : State) (i' : Nat), i' < n ∧ own_Idx (own_K arr) n i q2 i' ∧ Stand p l e R s m args below meth c T' locs cells slots ∧ T'.heap = h0 ∧ ∀ target, Steps p.tables e below (T'.setTop (mkF m 60 #[.val (.ref a1), .val (.long q2), .second, .val (.int ((Int32.ofNat (2 * n)) - (1 : Int32))), .val (.int (own_p i'))] [])) target → Steps p.tables e below (T0.setTop (mkF m 23 #[.val (.ref a1), .val (.long q2), .second, .val (.int ((Int32.ofNat (2 * n)) - (1 : Int32))), .val (.int (own_p i))] [])) target := by
  induction f with
  | zero =>
    intro T0 i hi hfr X0 e0
    obtain ⟨T1, X1, e1, st1⟩ := getF X0 hx hZ hown (host := "") (Or.inl (hw _ (List.mem_of_getElem? (i := 19) rfl))) Via.refl e0 FS (g := (mkF m 24 #[.val (.ref a1), .val (.long q2), .second, .val (.int ((Int32.ofNat (2 * n)) - (1 : Int32))), .val (.int (own_p i))] [(.ref a1)])) rfl rfl (hb hby d9_24)
    obtain ⟨cl2, Ar2, qk2, Sz2, Nn2, Hh2, Gg2⟩ := id (AV)
    have hin3 : ¬ ((own_p i) < 0 ∨ cl2.slots.size ≤ ((own_p i)).toNatClampNeg) := inb_of Sz2 ⟨own_p0 (own_lt8 hi hn), own_plt hi hn⟩
    have hat3 : cl2.slots[((own_p i)).toNatClampNeg]? = some (.long (own_K arr i)) := Has.at Hh2 hin3 (own_ldK arr (own_lt8 hi hn))
    by_cases hc32 : (own_K arr i) = q2
    · refine ⟨T1, i, hi, ⟨0, by rw [Nat.add_zero, Nat.mod_eq_of_lt hi], fun e he => absurd he (Nat.not_lt_zero e), Or.inl hc32⟩, X1, e1, fun target kt => ?_⟩
      show Steps p.tables e below (T0.setTop (mkF m 23 #[.val (.ref a1), .val (.long q2), .second, .val (.int ((Int32.ofNat (2 * n)) - (1 : Int32))), .val (.int (own_p i))] [])) _
      refine XS.aloadN X0.here hx rfl (hb hby d9_23) rfl rfl ?_
      show Steps p.tables e below (T0.setTop (mkF m 24 #[.val (.ref a1), .val (.long q2), .second, .val (.int ((Int32.ofNat (2 * n)) - (1 : Int32))), .val (.int (own_p i))] [(.ref a1)])) _
      refine st1 _ ?_
      show Steps p.tables e below (T1.setTop (mkF m 27 #[.val (.ref a1), .val (.long q2), .second, .val (.int ((Int32.ofNat (2 * n)) - (1 : Int32))), .val (.int (own_p i))] [(.ref a)])) _
      refine XS.iload X1.here hx rfl (hb hby d9_27) rfl ?_
      show Steps p.tables e below (T1.setTop (mkF m 29 #[.val (.ref a1), .val (.long q2), .second, .val (.int ((Int32.ofNat (2 * n)) - (1 : Int32))), .val (.int (own_p i))] [(.int (own_p i)), (.ref a)])) _
      refine X1.laload hx (j := (own_p i)) (v := (.long (own_K arr i))) (by rw [e1]; exact Ar2.1) (State.isArrayOf_alike hZ.alike Ar2.2.1) Ar2.2.2 hin3 hat3 (g := (mkF m 29 #[.val (.ref a1), .val (.long q2), .second, .val (.int ((Int32.ofNat (2 * n)) - (1 : Int32))), .val (.int (own_p i))] [(.int (own_p i)), (.ref a)])) rfl rfl (hb hby d9_29) _ ?_
      show Steps p.tables e below (T1.setTop (mkF m 30 #[.val (.ref a1), .val (.long q2), .second, .val (.int ((Int32.ofNat (2 * n)) - (1 : Int32))), .val (.int (own_p i))] [(.long (own_K arr i))])) _
      refine XS.lloadN X1.here hx rfl (hb hby d9_30) rfl ?_
      show Steps p.tables e below (T1.setTop (mkF m 31 #[.val (.ref a1), .val (.long q2), .second, .val (.int ((Int32.ofNat (2 * n)) - (1 : Int32))), .val (.int (own_p i))] [(.long q2), (.long (own_K arr i))])) _
      refine XS.lcmp X1.here hx rfl (hb hby d9_31) rfl ?_
      show Steps p.tables e below (T1.setTop (mkF m 32 #[.val (.ref a1), .val (.long q2), .second, .val (.int ((Int32.ofNat (2 * n)) - (1 : Int32))), .val (.int (own_p i))] [(.int (lcmpW (own_K arr i) q2))])) _
      refine XS.ifYes X1.here hx rfl (pc0 := 32) (pc' := 60) rfl (hb hby d9_32) rfl ((if0 _ _).trans (teq (own_lceq hc32)).1) (by decide) (by decide) ?_
      exact kt
    · obtain ⟨T4, X4, e4, st4⟩ := getF X1 hx hZ hown (host := "") (Or.inl (hw _ (List.mem_of_getElem? (i := 19) rfl))) Via.refl e1 FS (g := (mkF m 36 #[.val (.ref a1), .val (.long q2), .second, .val (.int ((Int32.ofNat (2 * n)) - (1 : Int32))), .val (.int (own_p i))] [(.ref a1)])) rfl rfl (hb hby d9_36)
      obtain ⟨cl5, Ar5, qk5, Sz5, Nn5, Hh5, Gg5⟩ := id (AV)
      have hin6 : ¬ ((own_p i) < 0 ∨ cl5.slots.size ≤ ((own_p i)).toNatClampNeg) := inb_of Sz5 ⟨own_p0 (own_lt8 hi hn), own_plt hi hn⟩
      have hat6 : cl5.slots[((own_p i)).toNatClampNeg]? = some (.long (own_K arr i)) := Has.at Hh5 hin6 (own_ldK arr (own_lt8 hi hn))
      by_cases hc46 : (own_K arr i) = (-9223372036854775808 : Int64)
      · refine ⟨T4, i, hi, ⟨0, by rw [Nat.add_zero, Nat.mod_eq_of_lt hi], fun e he => absurd he (Nat.not_lt_zero e), Or.inr hc46⟩, X4, e4, fun target kt => ?_⟩
        show Steps p.tables e below (T0.setTop (mkF m 23 #[.val (.ref a1), .val (.long q2), .second, .val (.int ((Int32.ofNat (2 * n)) - (1 : Int32))), .val (.int (own_p i))] [])) _
        refine XS.aloadN X0.here hx rfl (hb hby d9_23) rfl rfl ?_
        show Steps p.tables e below (T0.setTop (mkF m 24 #[.val (.ref a1), .val (.long q2), .second, .val (.int ((Int32.ofNat (2 * n)) - (1 : Int32))), .val (.int (own_p i))] [(.ref a1)])) _
        refine st1 _ ?_
        show Steps p.tables e below (T1.setTop (mkF m 27 #[.val (.ref a1), .val (.long q2), .second, .val (.int ((Int32.ofNat (2 * n)) - (1 : Int32))), .val (.int (own_p i))] [(.ref a)])) _
        refine XS.iload X1.here hx rfl (hb hby d9_27) rfl ?_
        show Steps p.tables e below (T1.setTop (mkF m 29 #[.val (.ref a1), .val (.long q2), .second, .val (.int ((Int32.ofNat (2 * n)) - (1 : Int32))), .val (.int (own_p i))] [(.int (own_p i)), (.ref a)])) _
        refine X1.laload hx (j := (own_p i)) (v := (.long (own_K arr i))) (by rw [e1]; exact Ar2.1) (State.isArrayOf_alike hZ.alike Ar2.2.1) Ar2.2.2 hin3 hat3 (g := (mkF m 29 #[.val (.ref a1), .val (.long q2), .second, .val (.int ((Int32.ofNat (2 * n)) - (1 : Int32))), .val (.int (own_p i))] [(.int (own_p i)), (.ref a)])) rfl rfl (hb hby d9_29) _ ?_
        show Steps p.tables e below (T1.setTop (mkF m 30 #[.val (.ref a1), .val (.long q2), .second, .val (.int ((Int32.ofNat (2 * n)) - (1 : Int32))), .val (.int (own_p i))] [(.long (own_K arr i))])) _
        refine XS.lloadN X1.here hx rfl (hb hby d9_30) rfl ?_
        show Steps p.tables e below (T1.setTop (mkF m 31 #[.val (.ref a1), .val (.long q2), .second, .val (.int ((Int32.ofNat (2 * n)) - (1 : Int32))), .val (.int (own_p i))] [(.long q2), (.long (own_K arr i))])) _
        refine XS.lcmp X1.here hx rfl (hb hby d9_31) rfl ?_
        show Steps p.tables e below (T1.setTop (mkF m 32 #[.val (.ref a1), .val (.long q2), .second, .val (.int ((Int32.ofNat (2 * n)) - (1 : Int32))), .val (.int (own_p i))] [(.int (lcmpW (own_K arr i) q2))])) _
        refine XS.ifNo X1.here hx rfl (hb hby d9_32) rfl ((if0 _ _).trans (feq (own_lcne hc32)).1) ?_
        show Steps p.tables e below (T1.setTop (mkF m 35 #[.val (.ref a1), .val (.long q2), .second, .val (.int ((Int32.ofNat (2 * n)) - (1 : Int32))), .val (.int (own_p i))] [])) _
        refine XS.aloadN X1.here hx rfl (hb hby d9_35) rfl rfl ?_
        show Steps p.tables e below (T1.setTop (mkF m 36 #[.val (.ref a1), .val (.long q2), .second, .val (.int ((Int32.ofNat (2 * n)) - (1 : Int32))), .val (.int (own_p i))] [(.ref a1)])) _
        refine st4 _ ?_
        show Steps p.tables e below (T4.setTop (mkF m 39 #[.val (.ref a1), .val (.long q2), .second, .val (.int ((Int32.ofNat (2 * n)) - (1 : Int32))), .val (.int (own_p i))] [(.ref a)])) _
        refine XS.iload X4.here hx rfl (hb hby d9_39) rfl ?_
        show Steps p.tables e below (T4.setTop (mkF m 41 #[.val (.ref a1), .val (.long q2), .second, .val (.int ((Int32.ofNat (2 * n)) - (1 : Int32))), .val (.int (own_p i))] [(.int (own_p i)), (.ref a)])) _
        refine X4.laload hx (j := (own_p i)) (v := (.long (own_K arr i))) (by rw [e4]; exact Ar5.1) (State.isArrayOf_alike hZ.alike Ar5.2.1) Ar5.2.2 hin6 hat6 (g := (mkF m 41 #[.val (.ref a1), .val (.long q2), .second, .val (.int ((Int32.ofNat (2 * n)) - (1 : Int32))), .val (.int (own_p i))] [(.int (own_p i)), (.ref a)])) rfl rfl (hb hby d9_41) _ ?_
        show Steps p.tables e below (T4.setTop (mkF m 42 #[.val (.ref a1), .val (.long q2), .second, .val (.int ((Int32.ofNat (2 * n)) - (1 : Int32))), .val (.int (own_p i))] [(.long (own_K arr i))])) _
        refine X4.ldc2Long hx hown (mvT hZ (hw _ (List.mem_of_getElem? (i := 21) rfl))) (g := (mkF m 42 #[.val (.ref a1), .val (.long q2), .second, .val (.int ((Int32.ofNat (2 * n)) - (1 : Int32))), .val (.int (own_p i))] [(.long (own_K arr i))])) rfl (hb hby d9_42) _ ?_
        show Steps p.tables e below (T4.setTop (mkF m 45 #[.val (.ref a1), .val (.long q2), .second, .val (.int ((Int32.ofNat (2 * n)) - (1 : Int32))), .val (.int (own_p i))] [(.long (-9223372036854775808 : Int64)), (.long (own_K arr i))])) _
        refine XS.lcmp X4.here hx rfl (hb hby d9_45) rfl ?_
        show Steps p.tables e below (T4.setTop (mkF m 46 #[.val (.ref a1), .val (.long q2), .second, .val (.int ((Int32.ofNat (2 * n)) - (1 : Int32))), .val (.int (own_p i))] [(.int (lcmpW (own_K arr i) (-9223372036854775808 : Int64)))])) _
        refine XS.ifYes X4.here hx rfl (pc0 := 46) (pc' := 60) rfl (hb hby d9_46) rfl ((if0 _ _).trans (teq (own_lceq hc46)).1) (by decide) (by decide) ?_
        exact kt
      · have hnx := own_pnext hi hn
        exact absurd (by rw [Nat.add_zero, Nat.mod_eq_of_lt hi] at hfr; exact hfr) hc46
  | succ f ih =>
    intro T0 i hi hfr X0 e0
    obtain ⟨T1, X1, e1, st1⟩ := getF X0 hx hZ hown (host := "") (Or.inl (hw _ (List.mem_of_getElem? (i := 19) rfl))) Via.refl e0 FS (g := (mkF m 24 #[.val (.ref a1), .val (.long q2), .second, .val (.int ((Int32.ofNat (2 * n)) - (1 : Int32))), .val (.int (own_p i))] [(.ref a1)])) rfl rfl (hb hby d9_24)
    obtain ⟨cl2, Ar2, qk2, Sz2, Nn2, Hh2, Gg2⟩ := id (AV)
    have hin3 : ¬ ((own_p i) < 0 ∨ cl2.slots.size ≤ ((own_p i)).toNatClampNeg) := inb_of Sz2 ⟨own_p0 (own_lt8 hi hn), own_plt hi hn⟩
    have hat3 : cl2.slots[((own_p i)).toNatClampNeg]? = some (.long (own_K arr i)) := Has.at Hh2 hin3 (own_ldK arr (own_lt8 hi hn))
    by_cases hc32 : (own_K arr i) = q2
    · refine ⟨T1, i, hi, ⟨0, by rw [Nat.add_zero, Nat.mod_eq_of_lt hi], fun e he => absurd he (Nat.not_lt_zero e), Or.inl hc32⟩, X1, e1, fun target kt => ?_⟩
      show Steps p.tables e below (T0.setTop (mkF m 23 #[.val (.ref a1), .val (.long q2), .second, .val (.int ((Int32.ofNat (2 * n)) - (1 : Int32))), .val (.int (own_p i))] [])) _
      refine XS.aloadN X0.here hx rfl (hb hby d9_23) rfl rfl ?_
      show Steps p.tables e below (T0.setTop (mkF m 24 #[.val (.ref a1), .val (.long q2), .second, .val (.int ((Int32.ofNat (2 * n)) - (1 : Int32))), .val (.int (own_p i))] [(.ref a1)])) _
      refine st1 _ ?_
      show Steps p.tables e below (T1.setTop (mkF m 27 #[.val (.ref a1), .val (.long q2), .second, .val (.int ((Int32.ofNat (2 * n)) - (1 : Int32))), .val (.int (own_p i))] [(.ref a)])) _
      refine XS.iload X1.here hx rfl (hb hby d9_27) rfl ?_
      show Steps p.tables e below (T1.setTop (mkF m 29 #[.val (.ref a1), .val (.long q2), .second, .val (.int ((Int32.ofNat (2 * n)) - (1 : Int32))), .val (.int (own_p i))] [(.int (own_p i)), (.ref a)])) _
      refine X1.laload hx (j := (own_p i)) (v := (.long (own_K arr i))) (by rw [e1]; exact Ar2.1) (State.isArrayOf_alike hZ.alike Ar2.2.1) Ar2.2.2 hin3 hat3 (g := (mkF m 29 #[.val (.ref a1), .val (.long q2), .second, .val (.int ((Int32.ofNat (2 * n)) - (1 : Int32))), .val (.int (own_p i))] [(.int (own_p i)), (.ref a)])) rfl rfl (hb hby d9_29) _ ?_
      show Steps p.tables e below (T1.setTop (mkF m 30 #[.val (.ref a1), .val (.long q2), .second, .val (.int ((Int32.ofNat (2 * n)) - (1 : Int32))), .val (.int (own_p i))] [(.long (own_K arr i))])) _
      refine XS.lloadN X1.here hx rfl (hb hby d9_30) rfl ?_
      show Steps p.tables e below (T1.setTop (mkF m 31 #[.val (.ref a1), .val (.long q2), .second, .val (.int ((Int32.ofNat (2 * n)) - (1 : Int32))), .val (.int (own_p i))] [(.long q2), (.long (own_K arr i))])) _
      refine XS.lcmp X1.here hx rfl (hb hby d9_31) rfl ?_
      show Steps p.tables e below (T1.setTop (mkF m 32 #[.val (.ref a1), .val (.long q2), .second, .val (.int ((Int32.ofNat (2 * n)) - (1 : Int32))), .val (.int (own_p i))] [(.int (lcmpW (own_K arr i) q2))])) _
      refine XS.ifYes X1.here hx rfl (pc0 := 32) (pc' := 60) rfl (hb hby d9_32) rfl ((if0 _ _).trans (teq (own_lceq hc32)).1) (by decide) (by decide) ?_
      exact kt
    · obtain ⟨T4, X4, e4, st4⟩ := getF X1 hx hZ hown (host := "") (Or.inl (hw _ (List.mem_of_getElem? (i := 19) rfl))) Via.refl e1 FS (g := (mkF m 36 #[.val (.ref a1), .val (.long q2), .second, .val (.int ((Int32.ofNat (2 * n)) - (1 : Int32))), .val (.int (own_p i))] [(.ref a1)])) rfl rfl (hb hby d9_36)
      obtain ⟨cl5, Ar5, qk5, Sz5, Nn5, Hh5, Gg5⟩ := id (AV)
      have hin6 : ¬ ((own_p i) < 0 ∨ cl5.slots.size ≤ ((own_p i)).toNatClampNeg) := inb_of Sz5 ⟨own_p0 (own_lt8 hi hn), own_plt hi hn⟩
      have hat6 : cl5.slots[((own_p i)).toNatClampNeg]? = some (.long (own_K arr i)) := Has.at Hh5 hin6 (own_ldK arr (own_lt8 hi hn))
      by_cases hc46 : (own_K arr i) = (-9223372036854775808 : Int64)
      · refine ⟨T4, i, hi, ⟨0, by rw [Nat.add_zero, Nat.mod_eq_of_lt hi], fun e he => absurd he (Nat.not_lt_zero e), Or.inr hc46⟩, X4, e4, fun target kt => ?_⟩
        show Steps p.tables e below (T0.setTop (mkF m 23 #[.val (.ref a1), .val (.long q2), .second, .val (.int ((Int32.ofNat (2 * n)) - (1 : Int32))), .val (.int (own_p i))] [])) _
        refine XS.aloadN X0.here hx rfl (hb hby d9_23) rfl rfl ?_
        show Steps p.tables e below (T0.setTop (mkF m 24 #[.val (.ref a1), .val (.long q2), .second, .val (.int ((Int32.ofNat (2 * n)) - (1 : Int32))), .val (.int (own_p i))] [(.ref a1)])) _
        refine st1 _ ?_
        show Steps p.tables e below (T1.setTop (mkF m 27 #[.val (.ref a1), .val (.long q2), .second, .val (.int ((Int32.ofNat (2 * n)) - (1 : Int32))), .val (.int (own_p i))] [(.ref a)])) _
        refine XS.iload X1.here hx rfl (hb hby d9_27) rfl ?_
        show Steps p.tables e below (T1.setTop (mkF m 29 #[.val (.ref a1), .val (.long q2), .second, .val (.int ((Int32.ofNat (2 * n)) - (1 : Int32))), .val (.int (own_p i))] [(.int (own_p i)), (.ref a)])) _
        refine X1.laload hx (j := (own_p i)) (v := (.long (own_K arr i))) (by rw [e1]; exact Ar2.1) (State.isArrayOf_alike hZ.alike Ar2.2.1) Ar2.2.2 hin3 hat3 (g := (mkF m 29 #[.val (.ref a1), .val (.long q2), .second, .val (.int ((Int32.ofNat (2 * n)) - (1 : Int32))), .val (.int (own_p i))] [(.int (own_p i)), (.ref a)])) rfl rfl (hb hby d9_29) _ ?_
        show Steps p.tables e below (T1.setTop (mkF m 30 #[.val (.ref a1), .val (.long q2), .second, .val (.int ((Int32.ofNat (2 * n)) - (1 : Int32))), .val (.int (own_p i))] [(.long (own_K arr i))])) _
        refine XS.lloadN X1.here hx rfl (hb hby d9_30) rfl ?_
        show Steps p.tables e below (T1.setTop (mkF m 31 #[.val (.ref a1), .val (.long q2), .second, .val (.int ((Int32.ofNat (2 * n)) - (1 : Int32))), .val (.int (own_p i))] [(.long q2), (.long (own_K arr i))])) _
        refine XS.lcmp X1.here hx rfl (hb hby d9_31) rfl ?_
        show Steps p.tables e below (T1.setTop (mkF m 32 #[.val (.ref a1), .val (.long q2), .second, .val (.int ((Int32.ofNat (2 * n)) - (1 : Int32))), .val (.int (own_p i))] [(.int (lcmpW (own_K arr i) q2))])) _
        refine XS.ifNo X1.here hx rfl (hb hby d9_32) rfl ((if0 _ _).trans (feq (own_lcne hc32)).1) ?_
        show Steps p.tables e below (T1.setTop (mkF m 35 #[.val (.ref a1), .val (.long q2), .second, .val (.int ((Int32.ofNat (2 * n)) - (1 : Int32))), .val (.int (own_p i))] [])) _
        refine XS.aloadN X1.here hx rfl (hb hby d9_35) rfl rfl ?_
        show Steps p.tables e below (T1.setTop (mkF m 36 #[.val (.ref a1), .val (.long q2), .second, .val (.int ((Int32.ofNat (2 * n)) - (1 : Int32))), .val (.int (own_p i))] [(.ref a1)])) _
        refine st4 _ ?_
        show Steps p.tables e below (T4.setTop (mkF m 39 #[.val (.ref a1), .val (.long q2), .second, .val (.int ((Int32.ofNat (2 * n)) - (1 : Int32))), .val (.int (own_p i))] [(.ref a)])) _
        refine XS.iload X4.here hx rfl (hb hby d9_39) rfl ?_
        show Steps p.tables e below (T4.setTop (mkF m 41 #[.val (.ref a1), .val (.long q2), .second, .val (.int ((Int32.ofNat (2 * n)) - (1 : Int32))), .val (.int (own_p i))] [(.int (own_p i)), (.ref a)])) _
        refine X4.laload hx (j := (own_p i)) (v := (.long (own_K arr i))) (by rw [e4]; exact Ar5.1) (State.isArrayOf_alike hZ.alike Ar5.2.1) Ar5.2.2 hin6 hat6 (g := (mkF m 41 #[.val (.ref a1), .val (.long q2), .second, .val (.int ((Int32.ofNat (2 * n)) - (1 : Int32))), .val (.int (own_p i))] [(.int (own_p i)), (.ref a)])) rfl rfl (hb hby d9_41) _ ?_
        show Steps p.tables e below (T4.setTop (mkF m 42 #[.val (.ref a1), .val (.long q2), .second, .val (.int ((Int32.ofNat (2 * n)) - (1 : Int32))), .val (.int (own_p i))] [(.long (own_K arr i))])) _
        refine X4.ldc2Long hx hown (mvT hZ (hw _ (List.mem_of_getElem? (i := 21) rfl))) (g := (mkF m 42 #[.val (.ref a1), .val (.long q2), .second, .val (.int ((Int32.ofNat (2 * n)) - (1 : Int32))), .val (.int (own_p i))] [(.long (own_K arr i))])) rfl (hb hby d9_42) _ ?_
        show Steps p.tables e below (T4.setTop (mkF m 45 #[.val (.ref a1), .val (.long q2), .second, .val (.int ((Int32.ofNat (2 * n)) - (1 : Int32))), .val (.int (own_p i))] [(.long (-9223372036854775808 : Int64)), (.long (own_K arr i))])) _
        refine XS.lcmp X4.here hx rfl (hb hby d9_45) rfl ?_
        show Steps p.tables e below (T4.setTop (mkF m 46 #[.val (.ref a1), .val (.long q2), .second, .val (.int ((Int32.ofNat (2 * n)) - (1 : Int32))), .val (.int (own_p i))] [(.int (lcmpW (own_K arr i) (-9223372036854775808 : Int64)))])) _
        refine XS.ifYes X4.here hx rfl (pc0 := 46) (pc' := 60) rfl (hb hby d9_46) rfl ((if0 _ _).trans (teq (own_lceq hc46)).1) (by decide) (by decide) ?_
        exact kt
      · have hnx := own_pnext hi hn
        obtain ⟨T', i', hi', P', X', e', st'⟩ := ih T4 ((i + 1) % n) (Nat.mod_lt _ (own_n0 hn)) (by rw [← own_mod1]; exact hfr) X4 e4
        refine ⟨T', i', hi', own_idx_step hi hc32 hc46 P', X', e', fun target kt => ?_⟩
        show Steps p.tables e below (T0.setTop (mkF m 23 #[.val (.ref a1), .val (.long q2), .second, .val (.int ((Int32.ofNat (2 * n)) - (1 : Int32))), .val (.int (own_p i))] [])) _
        refine XS.aloadN X0.here hx rfl (hb hby d9_23) rfl rfl ?_
        show Steps p.tables e below (T0.setTop (mkF m 24 #[.val (.ref a1), .val (.long q2), .second, .val (.int ((Int32.ofNat (2 * n)) - (1 : Int32))), .val (.int (own_p i))] [(.ref a1)])) _
        refine st1 _ ?_
        show Steps p.tables e below (T1.setTop (mkF m 27 #[.val (.ref a1), .val (.long q2), .second, .val (.int ((Int32.ofNat (2 * n)) - (1 : Int32))), .val (.int (own_p i))] [(.ref a)])) _
        refine XS.iload X1.here hx rfl (hb hby d9_27) rfl ?_
        show Steps p.tables e below (T1.setTop (mkF m 29 #[.val (.ref a1), .val (.long q2), .second, .val (.int ((Int32.ofNat (2 * n)) - (1 : Int32))), .val (.int (own_p i))] [(.int (own_p i)), (.ref a)])) _
        refine X1.laload hx (j := (own_p i)) (v := (.long (own_K arr i))) (by rw [e1]; exact Ar2.1) (State.isArrayOf_alike hZ.alike Ar2.2.1) Ar2.2.2 hin3 hat3 (g := (mkF m 29 #[.val (.ref a1), .val (.long q2), .second, .val (.int ((Int32.ofNat (2 * n)) - (1 : Int32))), .val (.int (own_p i))] [(.int (own_p i)), (.ref a)])) rfl rfl (hb hby d9_29) _ ?_
        show Steps p.tables e below (T1.setTop (mkF m 30 #[.val (.ref a1), .val (.long q2), .second, .val (.int ((Int32.ofNat (2 * n)) - (1 : Int32))), .val (.int (own_p i))] [(.long (own_K arr i))])) _
        refine XS.lloadN X1.here hx rfl (hb hby d9_30) rfl ?_
        show Steps p.tables e below (T1.setTop (mkF m 31 #[.val (.ref a1), .val (.long q2), .second, .val (.int ((Int32.ofNat (2 * n)) - (1 : Int32))), .val (.int (own_p i))] [(.long q2), (.long (own_K arr i))])) _
        refine XS.lcmp X1.here hx rfl (hb hby d9_31) rfl ?_
        show Steps p.tables e below (T1.setTop (mkF m 32 #[.val (.ref a1), .val (.long q2), .second, .val (.int ((Int32.ofNat (2 * n)) - (1 : Int32))), .val (.int (own_p i))] [(.int (lcmpW (own_K arr i) q2))])) _
        refine XS.ifNo X1.here hx rfl (hb hby d9_32) rfl ((if0 _ _).trans (feq (own_lcne hc32)).1) ?_
        show Steps p.tables e below (T1.setTop (mkF m 35 #[.val (.ref a1), .val (.long q2), .second, .val (.int ((Int32.ofNat (2 * n)) - (1 : Int32))), .val (.int (own_p i))] [])) _
        refine XS.aloadN X1.here hx rfl (hb hby d9_35) rfl rfl ?_
        show Steps p.tables e below (T1.setTop (mkF m 36 #[.val (.ref a1), .val (.long q2), .second, .val (.int ((Int32.ofNat (2 * n)) - (1 : Int32))), .val (.int (own_p i))] [(.ref a1)])) _
        refine st4 _ ?_
        show Steps p.tables e below (T4.setTop (mkF m 39 #[.val (.ref a1), .val (.long q2), .second, .val (.int ((Int32.ofNat (2 * n)) - (1 : Int32))), .val (.int (own_p i))] [(.ref a)])) _
        refine XS.iload X4.here hx rfl (hb hby d9_39) rfl ?_
        show Steps p.tables e below (T4.setTop (mkF m 41 #[.val (.ref a1), .val (.long q2), .second, .val (.int ((Int32.ofNat (2 * n)) - (1 : Int32))), .val (.int (own_p i))] [(.int (own_p i)), (.ref a)])) _
        refine X4.laload hx (j := (own_p i)) (v := (.long (own_K arr i))) (by rw [e4]; exact Ar5.1) (State.isArrayOf_alike hZ.alike Ar5.2.1) Ar5.2.2 hin6 hat6 (g := (mkF m 41 #[.val (.ref a1), .val (.long q2), .second, .val (.int ((Int32.ofNat (2 * n)) - (1 : Int32))), .val (.int (own_p i))] [(.int (own_p i)), (.ref a)])) rfl rfl (hb hby d9_41) _ ?_
        show Steps p.tables e below (T4.setTop (mkF m 42 #[.val (.ref a1), .val (.long q2), .second, .val (.int ((Int32.ofNat (2 * n)) - (1 : Int32))), .val (.int (own_p i))] [(.long (own_K arr i))])) _
        refine X4.ldc2Long hx hown (mvT hZ (hw _ (List.mem_of_getElem? (i := 21) rfl))) (g := (mkF m 42 #[.val (.ref a1), .val (.long q2), .second, .val (.int ((Int32.ofNat (2 * n)) - (1 : Int32))), .val (.int (own_p i))] [(.long (own_K arr i))])) rfl (hb hby d9_42) _ ?_
        show Steps p.tables e below (T4.setTop (mkF m 45 #[.val (.ref a1), .val (.long q2), .second, .val (.int ((Int32.ofNat (2 * n)) - (1 : Int32))), .val (.int (own_p i))] [(.long (-9223372036854775808 : Int64)), (.long (own_K arr i))])) _
        refine XS.lcmp X4.here hx rfl (hb hby d9_45) rfl ?_
        show Steps p.tables e below (T4.setTop (mkF m 46 #[.val (.ref a1), .val (.long q2), .second, .val (.int ((Int32.ofNat (2 * n)) - (1 : Int32))), .val (.int (own_p i))] [(.int (lcmpW (own_K arr i) (-9223372036854775808 : Int64)))])) _
        refine XS.ifNo X4.here hx rfl (hb hby d9_46) rfl ((if0 _ _).trans (feq (own_lcne hc46)).1) ?_
        show Steps p.tables e below (T4.setTop (mkF m 49 #[.val (.ref a1), .val (.long q2), .second, .val (.int ((Int32.ofNat (2 * n)) - (1 : Int32))), .val (.int (own_p i))] [])) _
        refine XS.iload X4.here hx rfl (hb hby d9_49) rfl ?_
        show Steps p.tables e below (T4.setTop (mkF m 51 #[.val (.ref a1), .val (.long q2), .second, .val (.int ((Int32.ofNat (2 * n)) - (1 : Int32))), .val (.int (own_p i))] [(.int (own_p i))])) _
        refine XS.iconst X4.here hx rfl (hb hby d9_51) ?_
        show Steps p.tables e below (T4.setTop (mkF m 52 #[.val (.ref a1), .val (.long q2), .second, .val (.int ((Int32.ofNat (2 * n)) - (1 : Int32))), .val (.int (own_p i))] [(.int (2 : Int32)), (.int (own_p i))])) _
        refine XS.iadd X4.here hx rfl (hb hby d9_52) rfl ?_
        show Steps p.tables e below (T4.setTop (mkF m 53 #[.val (.ref a1), .val (.long q2), .second, .val (.int ((Int32.ofNat (2 * n)) - (1 : Int32))), .val (.int (own_p i))] [(.int ((own_p i) + (2 : Int32)))])) _
        refine XS.iloadN X4.here hx rfl (hb hby d9_53) rfl ?_
        show Steps p.tables e below (T4.setTop (mkF m 54 #[.val (.ref a1), .val (.long q2), .second, .val (.int ((Int32.ofNat (2 * n)) - (1 : Int32))), .val (.int (own_p i))] [(.int ((Int32.ofNat (2 * n)) - (1 : Int32))), (.int ((own_p i) + (2 : Int32)))])) _
        refine XS.iand X4.here hx rfl (hb hby d9_54) rfl ?_
        show Steps p.tables e below (T4.setTop (mkF m 55 #[.val (.ref a1), .val (.long q2), .second, .val (.int ((Int32.ofNat (2 * n)) - (1 : Int32))), .val (.int (own_p i))] [(.int (((own_p i) + (2 : Int32)) &&& ((Int32.ofNat (2 * n)) - (1 : Int32))))])) _
        rw [hnx]
        show Steps p.tables e below (T4.setTop (mkF m 55 #[.val (.ref a1), .val (.long q2), .second, .val (.int ((Int32.ofNat (2 * n)) - (1 : Int32))), .val (.int (own_p i))] [(.int (own_p ((i + 1) % n)))])) _
        refine XS.istore X4.here hx rfl (hb hby d9_55) rfl (l' := #[.val (.ref a1), .val (.long q2), .second, .val (.int ((Int32.ofNat (2 * n)) - (1 : Int32))), .val (.int (own_p ((i + 1) % n)))]) rfl ?_
        show Steps p.tables e below (T4.setTop (mkF m 57 #[.val (.ref a1), .val (.long q2), .second, .val (.int ((Int32.ofNat (2 * n)) - (1 : Int32))), .val (.int (own_p ((i + 1) % n)))] [])) _
        refine XS.goto X4.here hx rfl (pc0 := 57) (pc' := 23) rfl (hb hby d9_57) (by decide) (by decide) ?_
        exact st' target kt
theorem d9_0 : decode prog_19_method_8_code 0 = .ok (.aload_n 0, 1) := by decide +kernel
theorem d9_1 : decode prog_19_method_8_code 1 = .ok (.getfield 14, 3) := by decide +kernel
theorem d9_4 : decode prog_19_method_8_code 4 = .ok (.arraylength, 1) := by decide +kernel
theorem d9_5 : decode prog_19_method_8_code 5 = .ok (.iconst 1, 1) := by decide +kernel
theorem d9_6 : decode prog_19_method_8_code 6 = .ok (.isub, 1) := by decide +kernel
theorem d9_7 : decode prog_19_method_8_code 7 = .ok (.istore_n 3, 1) := by decide +kernel
theorem d9_8 : decode prog_19_method_8_code 8 = .ok (.lload_n 1, 1) := by decide +kernel
theorem d9_9 : decode prog_19_method_8_code 9 = .ok (.ldc2_w 70, 3) := by decide +kernel
theorem d9_12 : decode prog_19_method_8_code 12 = .ok (.lmul, 1) := by decide +kernel
theorem d9_13 : decode prog_19_method_8_code 13 = .ok (.aload_n 0, 1) := by decide +kernel
theorem d9_14 : decode prog_19_method_8_code 14 = .ok (.getfield 24, 3) := by decide +kernel
theorem d9_17 : decode prog_19_method_8_code 17 = .ok (.lushr, 1) := by decide +kernel
theorem d9_18 : decode prog_19_method_8_code 18 = .ok (.l2i, 1) := by decide +kernel
theorem d9_19 : decode prog_19_method_8_code 19 = .ok (.iconst 1, 1) := by decide +kernel
theorem d9_20 : decode prog_19_method_8_code 20 = .ok (.ishl, 1) := by decide +kernel
theorem d9_21 : decode prog_19_method_8_code 21 = .ok (.istore 4, 2) := by decide +kernel
theorem d9_60 : decode prog_19_method_8_code 60 = .ok (.iload 4, 2) := by decide +kernel
theorem d9_62 : decode prog_19_method_8_code 62 = .ok (.ireturn, 1) := by decide +kernel
theorem pn_9 : plainName "com/example/pricewright/pricewright/core/LongSumTable" = true := by first | (simp [plainName, overriddenIn]; done) | decide +kernel
theorem ef_rmX (m : MethodId) (a1 : Addr) (q2 : Int64) : entryFrame m #[(.ref a1), (.long q2)] 5 = mkF m 0 #[.val (.ref a1), .val (.long q2), .second, .unset, .unset] [] := by first | (simp [entryFrame, mkF, argsToLocals, Value.category]; done) | rfl
def QrmX (Z : State) (a1 : Addr) (q2 : Int64) (a : Addr) (k : ClassId) (arr : List Int64) (n : Nat) (sh : Int32) (h0 : Heap) (n0 : Nat) (v : Option Value) (h : Heap) (L : List Loc) : Prop := ∃ z : Int32, (∃ i, i < n ∧ z = own_p i ∧ own_Idx (own_K arr) n (own_hs n q2) q2 i) ∧ v = some (.int z) ∧ Fr n0 L ∧ h = h0
set_option maxRecDepth 65536 in
set_option maxHeartbeats 40000000 in
theorem rmX (l : Launch) (Z : State) (a0 : Array Value) (hw : ∀ d ∈ tables_1, d.before a0 Z = true) (ws : List Jvm.Cond) (a1 : Addr) (q2 : Int64) (a : Addr) (k : ClassId) (arr : List Int64) (n : Nat) (sh : Int32) (h0 : Heap) (n0 : Nat) (Z0 : n0 ≤ h0.size) (hns : (n = 4 ∧ sh = 62) ∨ (n = 8 ∧ sh = 61)) (FS : Fld Z h0 a1 "com/example/pricewright/pricewright/core/LongSumTable" "slots" "[J" (.ref a)) (FH : Fld Z h0 a1 "com/example/pricewright/pricewright/core/LongSumTable" "shift" "I" (.int sh)) (AV : Arv Z h0 a k .long (Int32.ofNat (2 * n)) (arr.map Value.long) (.long (0 : Int64))) (hfr : ∃ j, j < n ∧ own_K arr j = own_FREE) :
    MetFree l (⟨"com/example/pricewright/pricewright/core/LongSumTable", "index", "(J)I"⟩ : MethodName) (head1 (Jvm.Cond.code (⟨"com/example/pricewright/pricewright/core/LongSumTable", "index", "(J)I"⟩ : MethodName) prog_19_method_8_code 5 (some .int) :: ws) ({ frames := 0, cells := 0, slots := 0, locals := 0 } : Room)) (fun a U => a = #[(.ref a1), (.long q2)] ∧ Z.Warmed39 U.vm ∧ U.heap = h0) (fun _ _ _ _ _ => True) (fun _ U o U' => ∃ v L, o = .returned v ∧ QrmX Z a1 q2 a k arr n sh h0 n0 v U'.heap L ∧ FrameEnd U o U' L ({ frames := 0, cells := 0, slots := 0, locals := 0 } : Room).cells ({ frames := 0, cells := 0, slots := 0, locals := 0 } : Room).slots) := by
  refine MetFree.of_bodySF (plainFor_of_name pn_9) hisR ?_
  intro p e s m args below meth c s₁ Bd hml0 hP hK
  obtain ⟨rfl, hZ, hh⟩ := hP
  have hx := Bd.exec
  have hby := Bd.bytes
  have hml : c.maxLocals = 5 := hml0
  have hown : s.vm.findClass "com/example/pricewright/pricewright/core/LongSumTable" = some m.cls := findClass_of_methodNamed Bd.named
  have hnm := (name_of_methodNamed Bd.named Bd.method).1
  have X0 : Stand p l e ({ frames := 0, cells := 0, slots := 0, locals := 0 } : Room) s m #[(.ref a1), (.long q2)] below meth c s₁ [] 0 0 := Stand.of_body Bd
  have e0 : s₁.heap = h0 := by rw [← hh, Bd.state]; rfl
  have N0 := Fr.nil n0
  have pre0 : ∀ t, Steps p.tables e below (s₁.setTop (mkF m 0 #[.val (.ref a1), .val (.long q2), .second, .unset, .unset] [])) t → Steps p.tables e below (s₁.setTop (entryFrame m #[(.ref a1), (.long q2)] 5)) t := fun t k => castTop (ef_rmX m a1 q2) k
  have hn := own_hn hns
  obtain ⟨T1, X1, e1, st1⟩ := getF X0 hx hZ hown (host := "") (Or.inl (hw _ (List.mem_of_getElem? (i := 19) rfl))) Via.refl e0 FS (g := (mkF m 1 #[.val (.ref a1), .val (.long q2), .second, .unset, .unset] [(.ref a1)])) rfl rfl (hb hby d9_1)
  obtain ⟨cl2, Ar2, qk2, Sz2, Nn2, Hh2, Gg2⟩ := id (AV)
  obtain ⟨T3, X3, e3, st3⟩ := getF X1 hx hZ hown (host := "") (Or.inl (hw _ (List.mem_of_getElem? (i := 31) rfl))) Via.refl e1 FH (g := (mkF m 14 #[.val (.ref a1), .val (.long q2), .second, .val (.int ((Int32.ofNat (2 * n)) - (1 : Int32))), .unset] [(.ref a1), (.long (q2 * (-7046029254386353131 : Int64)))])) rfl rfl (hb hby d9_14)
  have hh := own_hash q2 hns
  obtain ⟨f, hf⟩ := own_far hfr (own_hslt q2 hn)
  obtain ⟨T4, i, hi, P, X4, e4, st4⟩ := own_lp hx hZ hw hby hml hown hn FS AV f T3 _ (own_hslt q2 hn) hf X3 e3
  obtain ⟨fs, hr, hrun, hended, hW, hsame⟩ := X4.leave (v := some (.int (own_p i))) (fun h => by rw [Bd.returns] at h; cases h)
  refine ⟨_, _, pre0 _ ?_, hrun, hended, _, _, rfl, ?_, ⟨_, rfl⟩, hW, hsame.mono (by decide) (by decide)⟩
  · show Steps p.tables e below (s₁.setTop (mkF m 0 #[.val (.ref a1), .val (.long q2), .second, .unset, .unset] [])) _
    refine XS.aloadN X0.here hx rfl (hb hby d9_0) rfl rfl ?_
    show Steps p.tables e below (s₁.setTop (mkF m 1 #[.val (.ref a1), .val (.long q2), .second, .unset, .unset] [(.ref a1)])) _
    refine st1 _ ?_
    show Steps p.tables e below (T1.setTop (mkF m 4 #[.val (.ref a1), .val (.long q2), .second, .unset, .unset] [(.ref a)])) _
    refine X1.arraylength hx (by rw [e1]; exact Ar2.1) (State.isArrayOf_alike hZ.alike Ar2.2.1) (g := (mkF m 4 #[.val (.ref a1), .val (.long q2), .second, .unset, .unset] [(.ref a)])) rfl rfl (hb hby d9_4) _ ?_
    rw [len_of Sz2 Nn2]
    show Steps p.tables e below (T1.setTop (mkF m 5 #[.val (.ref a1), .val (.long q2), .second, .unset, .unset] [(.int (Int32.ofNat (2 * n)))])) _
    refine XS.iconst X1.here hx rfl (hb hby d9_5) ?_
    show Steps p.tables e below (T1.setTop (mkF m 6 #[.val (.ref a1), .val (.long q2), .second, .unset, .unset] [(.int (1 : Int32)), (.int (Int32.ofNat (2 * n)))])) _
    refine XS.isub X1.here hx rfl (hb hby d9_6) rfl ?_
    show Steps p.tables e below (T1.setTop (mkF m 7 #[.val (.ref a1), .val (.long q2), .second, .unset, .unset] [(.int ((Int32.ofNat (2 * n)) - (1 : Int32)))])) _
    refine XS.istoreN X1.here hx rfl (hb hby d9_7) rfl (l' := #[.val (.ref a1), .val (.long q2), .second, .val (.int ((Int32.ofNat (2 * n)) - (1 : Int32))), .unset]) rfl ?_
    show Steps p.tables e below (T1.setTop (mkF m 8 #[.val (.ref a1), .val (.long q2), .second, .val (.int ((Int32.ofNat (2 * n)) - (1 : Int32))), .unset] [])) _
    refine XS.lloadN X1.here hx rfl (hb hby d9_8) rfl ?_
    show Steps p.tables e below (T1.setTop (mkF m 9 #[.val (.ref a1), .val (.long q2), .second, .val (.int ((Int32.ofNat (2 * n)) - (1 : Int32))), .unset] [(.long q2)])) _
    refine X1.ldc2Long hx hown (mvT hZ (hw _ (List.mem_of_getElem? (i := 45) rfl))) (g := (mkF m 9 #[.val (.ref a1), .val (.long q2), .second, .val (.int ((Int32.ofNat (2 * n)) - (1 : Int32))), .unset] [(.long q2)])) rfl (hb hby d9_9) _ ?_
    show Steps p.tables e below (T1.setTop (mkF m 12 #[.val (.ref a1), .val (.long q2), .second, .val (.int ((Int32.ofNat (2 * n)) - (1 : Int32))), .unset] [(.long (-7046029254386353131 : Int64)), (.long q2)])) _
    refine XS.lmul X1.here hx rfl (hb hby d9_12) rfl ?_
    show Steps p.tables e below (T1.setTop (mkF m 13 #[.val (.ref a1), .val (.long q2), .second, .val (.int ((Int32.ofNat (2 * n)) - (1 : Int32))), .unset] [(.long (q2 * (-7046029254386353131 : Int64)))])) _
    refine XS.aloadN X1.here hx rfl (hb hby d9_13) rfl rfl ?_
    show Steps p.tables e below (T1.setTop (mkF m 14 #[.val (.ref a1), .val (.long q2), .second, .val (.int ((Int32.ofNat (2 * n)) - (1 : Int32))), .unset] [(.ref a1), (.long (q2 * (-7046029254386353131 : Int64)))])) _
    refine st3 _ ?_
    show Steps p.tables e below (T3.setTop (mkF m 17 #[.val (.ref a1), .val (.long q2), .second, .val (.int ((Int32.ofNat (2 * n)) - (1 : Int32))), .unset] [(.int sh), (.long (q2 * (-7046029254386353131 : Int64)))])) _
    refine XS.lushr X3.here hx rfl (hb hby d9_17) rfl ?_
    show Steps p.tables e below (T3.setTop (mkF m 18 #[.val (.ref a1), .val (.long q2), .second, .val (.int ((Int32.ofNat (2 * n)) - (1 : Int32))), .unset] [(.long (((q2 * (-7046029254386353131 : Int64)).toUInt64 >>> (sh &&& 0x3f).toInt64.toUInt64).toInt64))])) _
    refine XS.l2i X3.here hx rfl (hb hby d9_18) rfl ?_
    show Steps p.tables e below (T3.setTop (mkF m 19 #[.val (.ref a1), .val (.long q2), .second, .val (.int ((Int32.ofNat (2 * n)) - (1 : Int32))), .unset] [(.int ((((q2 * (-7046029254386353131 : Int64)).toUInt64 >>> (sh &&& 0x3f).toInt64.toUInt64).toInt64).toInt32))])) _
    refine XS.iconst X3.here hx rfl (hb hby d9_19) ?_
    show Steps p.tables e below (T3.setTop (mkF m 20 #[.val (.ref a1), .val (.long q2), .second, .val (.int ((Int32.ofNat (2 * n)) - (1 : Int32))), .unset] [(.int (1 : Int32)), (.int ((((q2 * (-7046029254386353131 : Int64)).toUInt64 >>> (sh &&& 0x3f).toInt64.toUInt64).toInt64).toInt32))])) _
    refine XS.ishl X3.here hx rfl (hb hby d9_20) rfl ?_
    show Steps p.tables e below (T3.setTop (mkF m 21 #[.val (.ref a1), .val (.long q2), .second, .val (.int ((Int32.ofNat (2 * n)) - (1 : Int32))), .unset] [(.int (((((q2 * (-7046029254386353131 : Int64)).toUInt64 >>> (sh &&& 0x3f).toInt64.toUInt64).toInt64).toInt32) <<< ((1 : Int32) &&& 31)))])) _
    rw [hh]
    show Steps p.tables e below (T3.setTop (mkF m 21 #[.val (.ref a1), .val (.long q2), .second, .val (.int ((Int32.ofNat (2 * n)) - (1 : Int32))), .unset] [(.int (own_p (own_hs n q2)))])) _
    refine XS.istore X3.here hx rfl (hb hby d9_21) rfl (l' := #[.val (.ref a1), .val (.long q2), .second, .val (.int ((Int32.ofNat (2 * n)) - (1 : Int32))), .val (.int (own_p (own_hs n q2)))]) rfl ?_
    show Steps p.tables e below (T3.setTop (mkF m 23 #[.val (.ref a1), .val (.long q2), .second, .val (.int ((Int32.ofNat (2 * n)) - (1 : Int32))), .val (.int (own_p (own_hs n q2)))] [])) _
    refine st4 _ ?_
    show Steps p.tables e below (T4.setTop (mkF m 60 #[.val (.ref a1), .val (.long q2), .second, .val (.int ((Int32.ofNat (2 * n)) - (1 : Int32))), .val (.int (own_p i))] [])) _
    refine XS.iload X4.here hx rfl (hb hby d9_60) rfl ?_
    show Steps p.tables e below (T4.setTop (mkF m 62 #[.val (.ref a1), .val (.long q2), .second, .val (.int ((Int32.ofNat (2 * n)) - (1 : Int32))), .val (.int (own_p i))] [(.int (own_p i))])) _
    exact retI X4 hx Bd.returns (hb hby d9_62) hr
  · show QrmX Z a1 q2 a k arr n sh h0 n0 _ T4.heap _
    exact ⟨_, ⟨i, hi, rfl, P⟩, rfl, N0, e4⟩
theorem d10_0 : decode prog_19_method_4_code 0 = .ok (.aload_n 0, 1) := by decide +kernel
theorem d10_1 : decode prog_19_method_4_code 1 = .ok (.lload_n 1, 1) := by decide +kernel
theorem d10_2 : decode prog_19_method_4_code 2 = .ok (.invokevirtual 32, 3) := by decide +kernel
theorem d10_5 : decode prog_19_method_4_code 5 = .ok (.istore_n 3, 1) := by decide +kernel
theorem d10_6 : decode prog_19_method_4_code 6 = .ok (.aload_n 0, 1) := by decide +kernel
theorem d10_7 : decode prog_19_method_4_code 7 = .ok (.getfield 14, 3) := by decide +kernel
theorem d10_10 : decode prog_19_method_4_code 10 = .ok (.iload_n 3, 1) := by decide +kernel
theorem d10_11 : decode prog_19_method_4_code 11 = .ok (.laload, 1) := by decide +kernel
theorem d10_12 : decode prog_19_method_4_code 12 = .ok (.lload_n 1, 1) := by decide +kernel
theorem d10_13 : decode prog_19_method_4_code 13 = .ok (.lcmp, 1) := by decide +kernel
theorem d10_14 : decode prog_19_method_4_code 14 = .ok (.ifCond .ne 14, 3) := by decide +kernel
theorem d10_17 : decode prog_19_method_4_code 17 = .ok (.aload_n 0, 1) := by decide +kernel
theorem d10_18 : decode prog_19_method_4_code 18 = .ok (.getfield 14, 3) := by decide +kernel
theorem d10_21 : decode prog_19_method_4_code 21 = .ok (.iload_n 3, 1) := by decide +kernel
theorem d10_22 : decode prog_19_method_4_code 22 = .ok (.iconst 1, 1) := by decide +kernel
theorem d10_23 : decode prog_19_method_4_code 23 = .ok (.iadd, 1) := by decide +kernel
theorem d10_24 : decode prog_19_method_4_code 24 = .ok (.laload, 1) := by decide +kernel
theorem d10_25 : decode prog_19_method_4_code 25 = .ok (.goto 4, 3) := by decide +kernel
theorem d10_28 : decode prog_19_method_4_code 28 = .ok (.lconst 0, 1) := by decide +kernel
theorem d10_29 : decode prog_19_method_4_code 29 = .ok (.lreturn, 1) := by decide +kernel
theorem pn_10 : plainName "com/example/pricewright/pricewright/core/LongSumTable" = true := by first | (simp [plainName, overriddenIn]; done) | decide +kernel
theorem ef_rmG (m : MethodId) (a1 : Addr) (q2 : Int64) : entryFrame m #[(.ref a1), (.long q2)] 4 = mkF m 0 #[.val (.ref a1), .val (.long q2), .second, .unset] [] := by first | (simp [entryFrame, mkF, argsToLocals, Value.category]; done) | rfl
def QrmG (Z : State) (a1 : Addr) (q2 : Int64) (a : Addr) (k : ClassId) (arr : List Int64) (n : Nat) (sh : Int32) (h0 : Heap) (n0 : Nat) (v : Option Value) (h : Heap) (L : List Loc) : Prop := ∃ z : Int64, (∃ i, i < n ∧ own_Idx (own_K arr) n (own_hs n q2) q2 i ∧ z = if own_K arr i = q2 then own_W arr i else 0) ∧ v = some (.long z) ∧ Fr n0 L ∧ h = h0
set_option maxRecDepth 65536 in
set_option maxHeartbeats 40000000 in
theorem rmG (l : Launch) (Z : State) (a0 : Array Value) (hw : ∀ d ∈ tables_1, d.before a0 Z = true) (ws : List Jvm.Cond) (a1 : Addr) (q2 : Int64) (a : Addr) (k : ClassId) (arr : List Int64) (n : Nat) (sh : Int32) (h0 : Heap) (n0 : Nat) (Z0 : n0 ≤ h0.size) (hns : (n = 4 ∧ sh = 62) ∨ (n = 8 ∧ sh = 61)) (E : Exa Z h0 a1 "com/example/pricewright/pricewright/core/LongSumTable") (FS : Fld Z h0 a1 "com/example/pricewright/pricewright/core/LongSumTable" "slots" "[J" (.ref a)) (FH : Fld Z h0 a1 "com/example/pricewright/pricewright/core/LongSumTable" "shift" "I" (.int sh)) (AV : Arv Z h0 a k .long (Int32.ofNat (2 * n)) (arr.map Value.long) (.long (0 : Int64))) (hfr : ∃ j, j < n ∧ own_K arr j = own_FREE) :
    MetFree l (⟨"com/example/pricewright/pricewright/core/LongSumTable", "get", "(J)J"⟩ : MethodName) (head1 (Jvm.Cond.code (⟨"com/example/pricewright/pricewright/core/LongSumTable", "get", "(J)J"⟩ : MethodName) prog_19_method_4_code 4 (some .long) :: ws) ({ frames := 1, cells := 0, slots := 0, locals := 16 } : Room)) (fun a U => a = #[(.ref a1), (.long q2)] ∧ Z.Warmed39 U.vm ∧ U.heap = h0) (fun _ _ _ _ _ => True) (fun _ U o U' => ∃ v L, o = .returned v ∧ QrmG Z a1 q2 a k arr n sh h0 n0 v U'.heap L ∧ FrameEnd U o U' L ({ frames := 1, cells := 0, slots := 0, locals := 16 } : Room).cells ({ frames := 1, cells := 0, slots := 0, locals := 16 } : Room).slots) := by
  refine MetFree.of_bodySF (plainFor_of_name pn_10) hisR ?_
  intro p e s m args below meth c s₁ Bd hml0 hP hK
  obtain ⟨rfl, hZ, hh⟩ := hP
  have hx := Bd.exec
  have hby := Bd.bytes
  have hml : c.maxLocals = 4 := hml0
  have hown : s.vm.findClass "com/example/pricewright/pricewright/core/LongSumTable" = some m.cls := findClass_of_methodNamed Bd.named
  have hnm := (name_of_methodNamed Bd.named Bd.method).1
  have X0 : Stand p l e ({ frames := 1, cells := 0, slots := 0, locals := 16 } : Room) s m #[(.ref a1), (.long q2)] below meth c s₁ [] 0 0 := Stand.of_body Bd
  have e0 : s₁.heap = h0 := by rw [← hh, Bd.state]; rfl
  have N0 := Fr.nil n0
  have pre0 : ∀ t, Steps p.tables e below (s₁.setTop (mkF m 0 #[.val (.ref a1), .val (.long q2), .second, .unset] [])) t → Steps p.tables e below (s₁.setTop (entryFrame m #[(.ref a1), (.long q2)] 4)) t := fun t k => castTop (ef_rmG m a1 q2) k
  have hn := own_hn hns
  obtain ⟨cq1, qq1, qq1'⟩ := E.cell
  obtain ⟨_, _, ⟨T1, L1, k1, n1⟩, -, X1, ⟨Lc1, hQ1, l1, y1, z1⟩, st1⟩ := X0.privateBack hx (y := (⟨"com/example/pricewright/pricewright/core/LongSumTable", "index", "(J)I"⟩ : MethodName)) hown (mvT hZ (hw _ (List.mem_of_getElem? (i := 41) rfl))) (mvT hZ (hw _ (List.mem_of_getElem? (i := 42) rfl))) (own_selpriv (mvT hZ (hw _ (List.mem_of_getElem? (i := 7) rfl))) (Cond.privateMethod_at (mvP hZ (hw _ (List.mem_of_getElem? (i := 43) rfl)) (args := #[]))) (mvT hZ (hw _ (List.mem_of_getElem? (i := 42) rfl))) (by decide)) (Cond.privateMethod_at (mvP hZ (hw _ (List.mem_of_getElem? (i := 43) rfl)) (args := #[]))) (mvT hZ (hw _ (List.mem_of_getElem? (i := 44) rfl))) (by decide) (backOf (W := 0) (rmX l Z a0 hw [] a1 q2 a k (arr) n sh h0 n0 Z0 hns FS FH AV hfr) hZ (hw _ (List.mem_of_getElem? (i := 44) rfl)) (hw _ (List.mem_of_getElem? (i := 8) rfl)) (by decide) (by decide)) (g := (mkF m 2 #[.val (.ref a1), .val (.long q2), .second, .unset] [(.long q2), (.ref a1)])) rfl (by rw [hml]; rfl) (Steps.refl _) (a := a1) (by rw [e0]; exact qq1) qq1' (argsL := [(.long q2)]) (rest := []) (lenOf pd_1 rfl) rfl (by show 2 * 0 + _ ≤ _; exact Nat.le_of_eq rfl) (hb hby d10_2) (fun _ _ => ⟨rfl, e0, (by decide : 0 + 0 ≤ _), (by decide : 0 + 0 ≤ _)⟩)
  dsimp only [Pt.U, Pt.locs, Pt.cells, Pt.slots] at X1 l1 y1 z1 st1 hQ1
  subst l1 y1 z1
  obtain ⟨r1, hr1, rfl, N1q, e1⟩ := hQ1
  have N1 := Fr.app N0 N1q
  obtain ⟨i1, hi1, rfl, P1⟩ := hr1
  obtain ⟨T2, X2, e2, st2⟩ := getF X1 hx hZ hown (host := "") (Or.inl (hw _ (List.mem_of_getElem? (i := 19) rfl))) Via.refl e1 FS (g := (mkF m 7 #[.val (.ref a1), .val (.long q2), .second, .val (.int (own_p i1))] [(.ref a1)])) rfl rfl (hb hby d10_7)
  obtain ⟨cl3, Ar3, qk3, Sz3, Nn3, Hh3, Gg3⟩ := id (AV)
  have hin4 : ¬ ((own_p i1) < 0 ∨ cl3.slots.size ≤ ((own_p i1)).toNatClampNeg) := inb_of Sz3 ⟨own_p0 (own_lt8 hi1 hn), own_plt hi1 hn⟩
  have hat4 : cl3.slots[((own_p i1)).toNatClampNeg]? = some (.long (own_K arr i1)) := Has.at Hh3 hin4 (own_ldK arr (own_lt8 hi1 hn))
  by_cases hc14 : (own_K arr i1) = q2
  · obtain ⟨T5, X5, e5, st5⟩ := getF X2 hx hZ hown (host := "") (Or.inl (hw _ (List.mem_of_getElem? (i := 19) rfl))) Via.refl e2 FS (g := (mkF m 18 #[.val (.ref a1), .val (.long q2), .second, .val (.int (own_p i1))] [(.ref a1)])) rfl rfl (hb hby d10_18)
    obtain ⟨cl6, Ar6, qk6, Sz6, Nn6, Hh6, Gg6⟩ := id (AV)
    have hin7 : ¬ (((own_p i1) + (1 : Int32)) < 0 ∨ cl6.slots.size ≤ (((own_p i1) + (1 : Int32))).toNatClampNeg) := inb_of Sz6 ⟨own_q0 (own_lt8 hi1 hn), own_qlt hi1 hn⟩
    have hat7 : cl6.slots[(((own_p i1) + (1 : Int32))).toNatClampNeg]? = some (.long (own_W arr i1)) := Has.at Hh6 hin7 (own_ldW arr (own_lt8 hi1 hn))
    obtain ⟨fs, hr, hrun, hended, hW, hsame⟩ := X5.leave (v := some (.long (own_W arr i1))) (fun h => by rw [Bd.returns] at h; cases h)
    refine ⟨_, _, pre0 _ ?_, hrun, hended, _, _, rfl, ?_, ⟨_, rfl⟩, hW, hsame.mono (by decide) (by decide)⟩
    · show Steps p.tables e below (s₁.setTop (mkF m 0 #[.val (.ref a1), .val (.long q2), .second, .unset] [])) _
      refine XS.aloadN X0.here hx rfl (hb hby d10_0) rfl rfl ?_
      show Steps p.tables e below (s₁.setTop (mkF m 1 #[.val (.ref a1), .val (.long q2), .second, .unset] [(.ref a1)])) _
      refine XS.lloadN X0.here hx rfl (hb hby d10_1) rfl ?_
      show Steps p.tables e below (s₁.setTop (mkF m 2 #[.val (.ref a1), .val (.long q2), .second, .unset] [(.long q2), (.ref a1)])) _
      refine st1.trans ?_
      show Steps p.tables e below (T1.setTop (mkF m 5 #[.val (.ref a1), .val (.long q2), .second, .unset] [(.int (own_p i1))])) _
      refine XS.istoreN X1.here hx rfl (hb hby d10_5) rfl (l' := #[.val (.ref a1), .val (.long q2), .second, .val (.int (own_p i1))]) rfl ?_
      show Steps p.tables e below (T1.setTop (mkF m 6 #[.val (.ref a1), .val (.long q2), .second, .val (.int (own_p i1))] [])) _
      refine XS.aloadN X1.here hx rfl (hb hby d10_6) rfl rfl ?_
      show Steps p.tables e below (T1.setTop (mkF m 7 #[.val (.ref a1), .val (.long q2), .second, .val (.int (own_p i1))] [(.ref a1)])) _
      refine st2 _ ?_
      show Steps p.tables e below (T2.setTop (mkF m 10 #[.val (.ref a1), .val (.long q2), .second, .val (.int (own_p i1))] [(.ref a)])) _
      refine XS.iloadN X2.here hx rfl (hb hby d10_10) rfl ?_
      show Steps p.tables e below (T2.setTop (mkF m 11 #[.val (.ref a1), .val (.long q2), .second, .val (.int (own_p i1))] [(.int (own_p i1)), (.ref a)])) _
      refine X2.laload hx (j := (own_p i1)) (v := (.long (own_K arr i1))) (by rw [e2]; exact Ar3.1) (State.isArrayOf_alike hZ.alike Ar3.2.1) Ar3.2.2 hin4 hat4 (g := (mkF m 11 #[.val (.ref a1), .val (.long q2), .second, .val (.int (own_p i1))] [(.int (own_p i1)), (.ref a)])) rfl rfl (hb hby d10_11) _ ?_
      show Steps p.tables e below (T2.setTop (mkF m 12 #[.val (.ref a1), .val (.long q2), .second, .val (.int (own_p i1))] [(.long (own_K arr i1))])) _
      refine XS.lloadN X2.here hx rfl (hb hby d10_12) rfl ?_
      show Steps p.tables e below (T2.setTop (mkF m 13 #[.val (.ref a1), .val (.long q2), .second, .val (.int (own_p i1))] [(.long q2), (.long (own_K arr i1))])) _
      refine XS.lcmp X2.here hx rfl (hb hby d10_13) rfl ?_
      show Steps p.tables e below (T2.setTop (mkF m 14 #[.val (.ref a1), .val (.long q2), .second, .val (.int (own_p i1))] [(.int (lcmpW (own_K arr i1) q2))])) _
      refine XS.ifNo X2.here hx rfl (hb hby d10_14) rfl ((if0 _ _).trans (teq (own_lceq hc14)).2) ?_
      show Steps p.tables e below (T2.setTop (mkF m 17 #[.val (.ref a1), .val (.long q2), .second, .val (.int (own_p i1))] [])) _
      refine XS.aloadN X2.here hx rfl (hb hby d10_17) rfl rfl ?_
      show Steps p.tables e below (T2.setTop (mkF m 18 #[.val (.ref a1), .val (.long q2), .second, .val (.int (own_p i1))] [(.ref a1)])) _
      refine st5 _ ?_
      show Steps p.tables e below (T5.setTop (mkF m 21 #[.val (.ref a1), .val (.long q2), .second, .val (.int (own_p i1))] [(.ref a)])) _
      refine XS.iloadN X5.here hx rfl (hb hby d10_21) rfl ?_
      show Steps p.tables e below (T5.setTop (mkF m 22 #[.val (.ref a1), .val (.long q2), .second, .val (.int (own_p i1))] [(.int (own_p i1)), (.ref a)])) _
      refine XS.iconst X5.here hx rfl (hb hby d10_22) ?_
      show Steps p.tables e below (T5.setTop (mkF m 23 #[.val (.ref a1), .val (.long q2), .second, .val (.int (own_p i1))] [(.int (1 : Int32)), (.int (own_p i1)), (.ref a)])) _
      refine XS.iadd X5.here hx rfl (hb hby d10_23) rfl ?_
      show Steps p.tables e below (T5.setTop (mkF m 24 #[.val (.ref a1), .val (.long q2), .second, .val (.int (own_p i1))] [(.int ((own_p i1) + (1 : Int32))), (.ref a)])) _
      refine X5.laload hx (j := ((own_p i1) + (1 : Int32))) (v := (.long (own_W arr i1))) (by rw [e5]; exact Ar6.1) (State.isArrayOf_alike hZ.alike Ar6.2.1) Ar6.2.2 hin7 hat7 (g := (mkF m 24 #[.val (.ref a1), .val (.long q2), .second, .val (.int (own_p i1))] [(.int ((own_p i1) + (1 : Int32))), (.ref a)])) rfl rfl (hb hby d10_24) _ ?_
      show Steps p.tables e below (T5.setTop (mkF m 25 #[.val (.ref a1), .val (.long q2), .second, .val (.int (own_p i1))] [(.long (own_W arr i1))])) _
      refine XS.goto X5.here hx rfl (pc0 := 25) (pc' := 29) rfl (hb hby d10_25) (by decide) (by decide) ?_
      show Steps p.tables e below (T5.setTop (mkF m 29 #[.val (.ref a1), .val (.long q2), .second, .val (.int (own_p i1))] [(.long (own_W arr i1))])) _
      exact X5.lreturnOut hx Bd.returns (hb hby d10_29) hr
    · show QrmG Z a1 q2 a k arr n sh h0 n0 _ T5.heap _
      exact ⟨_, ⟨i1, hi1, P1, by simp [hc14]⟩, rfl, N1, e5⟩
  · obtain ⟨fs, hr, hrun, hended, hW, hsame⟩ := X2.leave (v := some (.long (0 : Int64))) (fun h => by rw [Bd.returns] at h; cases h)
    refine ⟨_, _, pre0 _ ?_, hrun, hended, _, _, rfl, ?_, ⟨_, rfl⟩, hW, hsame.mono (by decide) (by decide)⟩
    · show Steps p.tables e below (s₁.setTop (mkF m 0 #[.val (.ref a1), .val (.long q2), .second, .unset] [])) _
      refine XS.aloadN X0.here hx rfl (hb hby d10_0) rfl rfl ?_
      show Steps p.tables e below (s₁.setTop (mkF m 1 #[.val (.ref a1), .val (.long q2), .second, .unset] [(.ref a1)])) _
      refine XS.lloadN X0.here hx rfl (hb hby d10_1) rfl ?_
      show Steps p.tables e below (s₁.setTop (mkF m 2 #[.val (.ref a1), .val (.long q2), .second, .unset] [(.long q2), (.ref a1)])) _
      refine st1.trans ?_
      show Steps p.tables e below (T1.setTop (mkF m 5 #[.val (.ref a1), .val (.long q2), .second, .unset] [(.int (own_p i1))])) _
      refine XS.istoreN X1.here hx rfl (hb hby d10_5) rfl (l' := #[.val (.ref a1), .val (.long q2), .second, .val (.int (own_p i1))]) rfl ?_
      show Steps p.tables e below (T1.setTop (mkF m 6 #[.val (.ref a1), .val (.long q2), .second, .val (.int (own_p i1))] [])) _
      refine XS.aloadN X1.here hx rfl (hb hby d10_6) rfl rfl ?_
      show Steps p.tables e below (T1.setTop (mkF m 7 #[.val (.ref a1), .val (.long q2), .second, .val (.int (own_p i1))] [(.ref a1)])) _
      refine st2 _ ?_
      show Steps p.tables e below (T2.setTop (mkF m 10 #[.val (.ref a1), .val (.long q2), .second, .val (.int (own_p i1))] [(.ref a)])) _
      refine XS.iloadN X2.here hx rfl (hb hby d10_10) rfl ?_
      show Steps p.tables e below (T2.setTop (mkF m 11 #[.val (.ref a1), .val (.long q2), .second, .val (.int (own_p i1))] [(.int (own_p i1)), (.ref a)])) _
      refine X2.laload hx (j := (own_p i1)) (v := (.long (own_K arr i1))) (by rw [e2]; exact Ar3.1) (State.isArrayOf_alike hZ.alike Ar3.2.1) Ar3.2.2 hin4 hat4 (g := (mkF m 11 #[.val (.ref a1), .val (.long q2), .second, .val (.int (own_p i1))] [(.int (own_p i1)), (.ref a)])) rfl rfl (hb hby d10_11) _ ?_
      show Steps p.tables e below (T2.setTop (mkF m 12 #[.val (.ref a1), .val (.long q2), .second, .val (.int (own_p i1))] [(.long (own_K arr i1))])) _
      refine XS.lloadN X2.here hx rfl (hb hby d10_12) rfl ?_
      show Steps p.tables e below (T2.setTop (mkF m 13 #[.val (.ref a1), .val (.long q2), .second, .val (.int (own_p i1))] [(.long q2), (.long (own_K arr i1))])) _
      refine XS.lcmp X2.here hx rfl (hb hby d10_13) rfl ?_
      show Steps p.tables e below (T2.setTop (mkF m 14 #[.val (.ref a1), .val (.long q2), .second, .val (.int (own_p i1))] [(.int (lcmpW (own_K arr i1) q2))])) _
      refine XS.ifYes X2.here hx rfl (pc0 := 14) (pc' := 28) rfl (hb hby d10_14) rfl ((if0 _ _).trans (feq (own_lcne hc14)).2) (by decide) (by decide) ?_
      show Steps p.tables e below (T2.setTop (mkF m 28 #[.val (.ref a1), .val (.long q2), .second, .val (.int (own_p i1))] [])) _
      refine XS.lconst X2.here hx rfl (hb hby d10_28) ?_
      show Steps p.tables e below (T2.setTop (mkF m 29 #[.val (.ref a1), .val (.long q2), .second, .val (.int (own_p i1))] [(.long (0 : Int64))])) _
      exact X2.lreturnOut hx Bd.returns (hb hby d10_29) hr
    · show QrmG Z a1 q2 a k arr n sh h0 n0 _ T2.heap _
      exact ⟨_, ⟨i1, hi1, P1, by simp [hc14]⟩, rfl, N1, e2⟩
theorem d13_0 : decode prog_19_method_10_code 0 = .ok (.aload_n 0, 1) := by decide +kernel
theorem d13_1 : decode prog_19_method_10_code 1 = .ok (.lload_n 1, 1) := by decide +kernel
theorem d13_2 : decode prog_19_method_10_code 2 = .ok (.invokevirtual 32, 3) := by decide +kernel
theorem d13_5 : decode prog_19_method_10_code 5 = .ok (.istore 5, 2) := by decide +kernel
theorem d13_7 : decode prog_19_method_10_code 7 = .ok (.aload_n 0, 1) := by decide +kernel
theorem d13_8 : decode prog_19_method_10_code 8 = .ok (.getfield 14, 3) := by decide +kernel
theorem d13_11 : decode prog_19_method_10_code 11 = .ok (.iload 5, 2) := by decide +kernel
theorem d13_13 : decode prog_19_method_10_code 13 = .ok (.lload_n 1, 1) := by decide +kernel
theorem d13_14 : decode prog_19_method_10_code 14 = .ok (.lastore, 1) := by decide +kernel
theorem d13_15 : decode prog_19_method_10_code 15 = .ok (.aload_n 0, 1) := by decide +kernel
theorem d13_16 : decode prog_19_method_10_code 16 = .ok (.getfield 14, 3) := by decide +kernel
theorem d13_19 : decode prog_19_method_10_code 19 = .ok (.iload 5, 2) := by decide +kernel
theorem d13_21 : decode prog_19_method_10_code 21 = .ok (.iconst 1, 1) := by decide +kernel
theorem d13_22 : decode prog_19_method_10_code 22 = .ok (.iadd, 1) := by decide +kernel
theorem d13_23 : decode prog_19_method_10_code 23 = .ok (.lload_n 3, 1) := by decide +kernel
theorem d13_24 : decode prog_19_method_10_code 24 = .ok (.lastore, 1) := by decide +kernel
theorem d13_25 : decode prog_19_method_10_code 25 = .ok (.return_, 1) := by decide +kernel
theorem pn_13 : plainName "com/example/pricewright/pricewright/core/LongSumTable" = true := by first | (simp [plainName, overriddenIn]; done) | decide +kernel
theorem ef_rmP (m : MethodId) (a1 : Addr) (q2 : Int64) (q3 : Int64) : entryFrame m #[(.ref a1), (.long q2), (.long q3)] 6 = mkF m 0 #[.val (.ref a1), .val (.long q2), .second, .val (.long q3), .second, .unset] [] := by first | (simp [entryFrame, mkF, argsToLocals, Value.category]; done) | rfl
def QrmP (Z : State) (a1 : Addr) (q2 : Int64) (q3 : Int64) (a : Addr) (k : ClassId) (arr : List Int64) (n : Nat) (sh : Int32) (h0 : Heap) (n0 : Nat) (v : Option Value) (h : Heap) (L : List Loc) : Prop := v = none ∧ Fr n0 L ∧ Keep h0 h [a] ∧ ∃ i, i < n ∧ own_Idx (own_K arr) n (own_hs n q2) q2 i ∧ Arv Z h a k .long (Int32.ofNat (2 * n)) (((arr.set (2 * i) q2).set (2 * i + 1) q3).map Value.long) (.long (0 : Int64))
set_option maxRecDepth 65536 in
set_option maxHeartbeats 40000000 in
theorem rmP (l : Launch) (Z : State) (a0 : Array Value) (hw : ∀ d ∈ tables_1, d.before a0 Z = true) (ws : List Jvm.Cond) (a1 : Addr) (q2 : Int64) (q3 : Int64) (a : Addr) (k : ClassId) (arr : List Int64) (n : Nat) (sh : Int32) (h0 : Heap) (n0 : Nat) (Z0 : n0 ≤ h0.size) (hns : (n = 4 ∧ sh = 62) ∨ (n = 8 ∧ sh = 61)) (E : Exa Z h0 a1 "com/example/pricewright/pricewright/core/LongSumTable") (FS : Fld Z h0 a1 "com/example/pricewright/pricewright/core/LongSumTable" "slots" "[J" (.ref a)) (FH : Fld Z h0 a1 "com/example/pricewright/pricewright/core/LongSumTable" "shift" "I" (.int sh)) (AV : Arv Z h0 a k .long (Int32.ofNat (2 * n)) (arr.map Value.long) (.long (0 : Int64))) (hfr : ∃ j, j < n ∧ own_K arr j = own_FREE) (hlen : arr.length = 2 * n) (hne : a1 ≠ a) (ga : n0 ≤ a) :
    MetFree l (⟨"com/example/pricewright/pricewright/core/LongSumTable", "put", "(JJ)V"⟩ : MethodName) (head1 (Jvm.Cond.code (⟨"com/example/pricewright/pricewright/core/LongSumTable", "put", "(JJ)V"⟩ : MethodName) prog_19_method_10_code 6 none :: ws) ({ frames := 1, cells := 0, slots := 0, locals := 16 } : Room)) (fun a U => a = #[(.ref a1), (.long q2), (.long q3)] ∧ Z.Warmed39 U.vm ∧ U.heap = h0) (fun _ _ _ _ _ => True) (fun _ U o U' => ∃ v L, o = .returned v ∧ QrmP Z a1 q2 q3 a k arr n sh h0 n0 v U'.heap L ∧ FrameEnd U o U' L ({ frames := 1, cells := 0, slots := 0, locals := 16 } : Room).cells ({ frames := 1, cells := 0, slots := 0, locals := 16 } : Room).slots) := by
  refine MetFree.of_bodySF (plainFor_of_name pn_13) hisR ?_
  intro p e s m args below meth c s₁ Bd hml0 hP hK
  obtain ⟨rfl, hZ, hh⟩ := hP
  have hx := Bd.exec
  have hby := Bd.bytes
  have hml : c.maxLocals = 6 := hml0
  have hown : s.vm.findClass "com/example/pricewright/pricewright/core/LongSumTable" = some m.cls := findClass_of_methodNamed Bd.named
  have hnm := (name_of_methodNamed Bd.named Bd.method).1
  have X0 : Stand p l e ({ frames := 1, cells := 0, slots := 0, locals := 16 } : Room) s m #[(.ref a1), (.long q2), (.long q3)] below meth c s₁ [] 0 0 := Stand.of_body Bd
  have e0 : s₁.heap = h0 := by rw [← hh, Bd.state]; rfl
  have N0 := Fr.nil n0
  have pre0 : ∀ t, Steps p.tables e below (s₁.setTop (mkF m 0 #[.val (.ref a1), .val (.long q2), .second, .val (.long q3), .second, .unset] [])) t → Steps p.tables e below (s₁.setTop (entryFrame m #[(.ref a1), (.long q2), (.long q3)] 6)) t := fun t k => castTop (ef_rmP m a1 q2 q3) k
  have hn := own_hn hns
  obtain ⟨cq1, qq1, qq1'⟩ := E.cell
  obtain ⟨_, _, ⟨T1, L1, k1, n1⟩, -, X1, ⟨Lc1, hQ1, l1, y1, z1⟩, st1⟩ := X0.privateBack hx (y := (⟨"com/example/pricewright/pricewright/core/LongSumTable", "index", "(J)I"⟩ : MethodName)) hown (mvT hZ (hw _ (List.mem_of_getElem? (i := 41) rfl))) (mvT hZ (hw _ (List.mem_of_getElem? (i := 42) rfl))) (own_selpriv (mvT hZ (hw _ (List.mem_of_getElem? (i := 7) rfl))) (Cond.privateMethod_at (mvP hZ (hw _ (List.mem_of_getElem? (i := 43) rfl)) (args := #[]))) (mvT hZ (hw _ (List.mem_of_getElem? (i := 42) rfl))) (by decide)) (Cond.privateMethod_at (mvP hZ (hw _ (List.mem_of_getElem? (i := 43) rfl)) (args := #[]))) (mvT hZ (hw _ (List.mem_of_getElem? (i := 44) rfl))) (by decide) (backOf (W := 0) (rmX l Z a0 hw [] a1 q2 a k (arr) n sh h0 n0 Z0 hns FS FH AV hfr) hZ (hw _ (List.mem_of_getElem? (i := 44) rfl)) (hw _ (List.mem_of_getElem? (i := 8) rfl)) (by decide) (by decide)) (g := (mkF m 2 #[.val (.ref a1), .val (.long q2), .second, .val (.long q3), .second, .unset] [(.long q2), (.ref a1)])) rfl (by rw [hml]; rfl) (Steps.refl _) (a := a1) (by rw [e0]; exact qq1) qq1' (argsL := [(.long q2)]) (rest := []) (lenOf pd_1 rfl) rfl (by show 2 * 0 + _ ≤ _; exact Nat.le_of_eq rfl) (hb hby d13_2) (fun _ _ => ⟨rfl, e0, (by decide : 0 + 0 ≤ _), (by decide : 0 + 0 ≤ _)⟩)
  dsimp only [Pt.U, Pt.locs, Pt.cells, Pt.slots] at X1 l1 y1 z1 st1 hQ1
  subst l1 y1 z1
  obtain ⟨r1, hr1, rfl, N1q, e1⟩ := hQ1
  have N1 := Fr.app N0 N1q
  obtain ⟨i1, hi1, rfl, P1⟩ := hr1
  obtain ⟨T2, X2, e2, st2⟩ := getF X1 hx hZ hown (host := "") (Or.inl (hw _ (List.mem_of_getElem? (i := 19) rfl))) Via.refl e1 FS (g := (mkF m 8 #[.val (.ref a1), .val (.long q2), .second, .val (.long q3), .second, .val (.int (own_p i1))] [(.ref a1)])) rfl rfl (hb hby d13_8)
  obtain ⟨cl3, Ar3, qk3, Sz3, Nn3, Hh3, Gg3⟩ := id (AV)
  have hin4 : ¬ ((own_p i1) < 0 ∨ cl3.slots.size ≤ ((own_p i1)).toNatClampNeg) := inb_of Sz3 ⟨own_p0 (own_lt8 hi1 hn), own_plt hi1 hn⟩
  obtain ⟨T4, h4, X4, e4, W4, st4⟩ := stJ X2 hx hZ e2 Ar3 (j := (own_p i1)) hin4 (g := (mkF m 14 #[.val (.ref a1), .val (.long q2), .second, .val (.long q3), .second, .val (.int (own_p i1))] [(.long q2), (.int (own_p i1)), (.ref a)])) rfl rfl (hb hby d13_14)
  have N4 := Fr.snoc X4 N1 ga
  have Z4 : n0 ≤ h4.size := by rw [W4.size]; exact Z0
  have K4 : Keep h0 h4 [a] := (Keep.refl h0 [a]).wr W4 (Or.inl (List.mem_of_getElem? (i := 0) rfl))
  have V4 : Arv Z h4 a k .long (Int32.ofNat (2 * n)) ((arr.set (2 * i1) q2).map Value.long) (.long (0 : Int64)) := by
    have q := Arv.set Ar3 qk3 Sz3 Nn3 Hh3 Gg3 rfl W4 (2 * i1) (own_pN (own_lt8 hi1 hn)) (by rw [List.length_map, hlen]; omega)
    rw [List.map_set]; exact q
  have f5 := (FS.other W4 (Or.inl hne))
  obtain ⟨T6, X6, e6, st6⟩ := getF X4 hx hZ hown (host := "") (Or.inl (hw _ (List.mem_of_getElem? (i := 19) rfl))) Via.refl e4 f5 (g := (mkF m 16 #[.val (.ref a1), .val (.long q2), .second, .val (.long q3), .second, .val (.int (own_p i1))] [(.ref a1)])) rfl rfl (hb hby d13_16)
  obtain ⟨cl7, Ar7, qk7, Sz7, Nn7, Hh7, Gg7⟩ := id (V4)
  have hin8 : ¬ (((own_p i1) + (1 : Int32)) < 0 ∨ cl7.slots.size ≤ (((own_p i1) + (1 : Int32))).toNatClampNeg) := inb_of Sz7 ⟨own_q0 (own_lt8 hi1 hn), own_qlt hi1 hn⟩
  obtain ⟨T8, h8, X8, e8, W8, st8⟩ := stJ X6 hx hZ e6 Ar7 (j := ((own_p i1) + (1 : Int32))) hin8 (g := (mkF m 24 #[.val (.ref a1), .val (.long q2), .second, .val (.long q3), .second, .val (.int (own_p i1))] [(.long q3), (.int ((own_p i1) + (1 : Int32))), (.ref a)])) rfl rfl (hb hby d13_24)
  have N8 := Fr.snoc X8 N4 ga
  have Z8 : n0 ≤ h8.size := by rw [W8.size]; exact Z4
  have K8 : Keep h0 h8 [a] := K4.wr W8 (Or.inl (List.mem_of_getElem? (i := 0) rfl))
  have V8 : Arv Z h8 a k .long (Int32.ofNat (2 * n)) (((arr.set (2 * i1) q2).set (2 * i1 + 1) q3).map Value.long) (.long (0 : Int64)) := by
    have q := Arv.set Ar7 qk7 Sz7 Nn7 Hh7 Gg7 rfl W8 (2 * i1 + 1) (own_qN (own_lt8 hi1 hn)) (by rw [List.length_map, List.length_set, hlen]; omega)
    rw [List.map_set]; exact q
  obtain ⟨fs, hr, hrun, hended, hW, hsame⟩ := X8.leave (v := none) (fun _ => rfl)
  refine ⟨_, _, pre0 _ ?_, hrun, hended, _, _, rfl, ?_, ⟨_, rfl⟩, hW, hsame.mono (by decide) (by decide)⟩
  · show Steps p.tables e below (s₁.setTop (mkF m 0 #[.val (.ref a1), .val (.long q2), .second, .val (.long q3), .second, .unset] [])) _
    refine XS.aloadN X0.here hx rfl (hb hby d13_0) rfl rfl ?_
    show Steps p.tables e below (s₁.setTop (mkF m 1 #[.val (.ref a1), .val (.long q2), .second, .val (.long q3), .second, .unset] [(.ref a1)])) _
    refine XS.lloadN X0.here hx rfl (hb hby d13_1) rfl ?_
    show Steps p.tables e below (s₁.setTop (mkF m 2 #[.val (.ref a1), .val (.long q2), .second, .val (.long q3), .second, .unset] [(.long q2), (.ref a1)])) _
    refine st1.trans ?_
    show Steps p.tables e below (T1.setTop (mkF m 5 #[.val (.ref a1), .val (.long q2), .second, .val (.long q3), .second, .unset] [(.int (own_p i1))])) _
    refine XS.istore X1.here hx rfl (hb hby d13_5) rfl (l' := #[.val (.ref a1), .val (.long q2), .second, .val (.long q3), .second, .val (.int (own_p i1))]) rfl ?_
    show Steps p.tables e below (T1.setTop (mkF m 7 #[.val (.ref a1), .val (.long q2), .second, .val (.long q3), .second, .val (.int (own_p i1))] [])) _
    refine XS.aloadN X1.here hx rfl (hb hby d13_7) rfl rfl ?_
    show Steps p.tables e below (T1.setTop (mkF m 8 #[.val (.ref a1), .val (.long q2), .second, .val (.long q3), .second, .val (.int (own_p i1))] [(.ref a1)])) _
    refine st2 _ ?_
    show Steps p.tables e below (T2.setTop (mkF m 11 #[.val (.ref a1), .val (.long q2), .second, .val (.long q3), .second, .val (.int (own_p i1))] [(.ref a)])) _
    refine XS.iload X2.here hx rfl (hb hby d13_11) rfl ?_
    show Steps p.tables e below (T2.setTop (mkF m 13 #[.val (.ref a1), .val (.long q2), .second, .val (.long q3), .second, .val (.int (own_p i1))] [(.int (own_p i1)), (.ref a)])) _
    refine XS.lloadN X2.here hx rfl (hb hby d13_13) rfl ?_
    show Steps p.tables e below (T2.setTop (mkF m 14 #[.val (.ref a1), .val (.long q2), .second, .val (.long q3), .second, .val (.int (own_p i1))] [(.long q2), (.int (own_p i1)), (.ref a)])) _
    refine st4 _ ?_
    show Steps p.tables e below (T4.setTop (mkF m 15 #[.val (.ref a1), .val (.long q2), .second, .val (.long q3), .second, .val (.int (own_p i1))] [])) _
    refine XS.aloadN X4.here hx rfl (hb hby d13_15) rfl rfl ?_
    show Steps p.tables e below (T4.setTop (mkF m 16 #[.val (.ref a1), .val (.long q2), .second, .val (.long q3), .second, .val (.int (own_p i1))] [(.ref a1)])) _
    refine st6 _ ?_
    show Steps p.tables e below (T6.setTop (mkF m 19 #[.val (.ref a1), .val (.long q2), .second, .val (.long q3), .second, .val (.int (own_p i1))] [(.ref a)])) _
    refine XS.iload X6.here hx rfl (hb hby d13_19) rfl ?_
    show Steps p.tables e below (T6.setTop (mkF m 21 #[.val (.ref a1), .val (.long q2), .second, .val (.long q3), .second, .val (.int (own_p i1))] [(.int (own_p i1)), (.ref a)])) _
    refine XS.iconst X6.here hx rfl (hb hby d13_21) ?_
    show Steps p.tables e below (T6.setTop (mkF m 22 #[.val (.ref a1), .val (.long q2), .second, .val (.long q3), .second, .val (.int (own_p i1))] [(.int (1 : Int32)), (.int (own_p i1)), (.ref a)])) _
    refine XS.iadd X6.here hx rfl (hb hby d13_22) rfl ?_
    show Steps p.tables e below (T6.setTop (mkF m 23 #[.val (.ref a1), .val (.long q2), .second, .val (.long q3), .second, .val (.int (own_p i1))] [(.int ((own_p i1) + (1 : Int32))), (.ref a)])) _
    refine XS.lloadN X6.here hx rfl (hb hby d13_23) rfl ?_
    show Steps p.tables e below (T6.setTop (mkF m 24 #[.val (.ref a1), .val (.long q2), .second, .val (.long q3), .second, .val (.int (own_p i1))] [(.long q3), (.int ((own_p i1) + (1 : Int32))), (.ref a)])) _
    refine st8 _ ?_
    show Steps p.tables e below (T8.setTop (mkF m 25 #[.val (.ref a1), .val (.long q2), .second, .val (.long q3), .second, .val (.int (own_p i1))] [])) _
    exact X8.returnOut hx Bd.returns (hb hby d13_25) hr
  · show QrmP Z a1 q2 q3 a k arr n sh h0 n0 _ T8.heap _
    rw [e8]
    exact ⟨rfl, N8, K8, i1, hi1, P1, V8⟩
def own_Tab (Z : State) (h : Heap) (n0 : Nat) (t : Addr) (n : Nat) (D : Int64 → Prop) (mm : Int64 → Int64) (sz : Nat) (so : Value) : Prop :=
  ∃ (a : Addr) (k : ClassId) (arr : List Int64) (sh : Int32), ((n = 4 ∧ sh = 62) ∨ (n = 8 ∧ sh = 61)) ∧ n0 ≤ a ∧ Exa Z h t "com/example/pricewright/pricewright/core/LongSumTable" ∧ Fld Z h t "com/example/pricewright/pricewright/core/LongSumTable" "slots" "[J" (.ref a) ∧ Fld Z h t "com/example/pricewright/pricewright/core/LongSumTable" "shift" "I" (.int sh) ∧ Fld Z h t "com/example/pricewright/pricewright/core/LongSumTable" "size" "I" (.int (Int32.ofNat sz)) ∧ Fld Z h t "com/example/pricewright/pricewright/core/LongSumTable" "sorted" "[J" so ∧ Arv Z h a k .long (Int32.ofNat (2 * n)) (arr.map Value.long) (.long (0 : Int64)) ∧ arr.length = 2 * n ∧ own_Rep (own_K arr) (own_W arr) n (own_hs n) D mm sz
theorem own_sz1 {sz : Nat} (h : sz ≤ 2) : Int32.ofNat sz + (1 : Int32) = Int32.ofNat (sz + 1) := (by decide +kernel : ∀ j : Fin 3, Int32.ofNat j.1 + (1 : Int32) = Int32.ofNat (j.1 + 1)) ⟨sz, by omega⟩
theorem own_sz2 {sz : Nat} (h : sz ≤ 2) (q : (2 : Int32) < Int32.ofNat sz + (1 : Int32)) : sz = 2 := (by decide +kernel : ∀ j : Fin 3, (2 : Int32) < Int32.ofNat j.1 + (1 : Int32) → j.1 = 2) ⟨sz, by omega⟩ q
theorem own_sz3 {sz : Nat} (h : sz ≤ 2) (q : ¬ (2 : Int32) < Int32.ofNat sz + (1 : Int32)) : sz ≤ 1 := (by decide +kernel : ∀ j : Fin 3, ¬ (2 : Int32) < Int32.ofNat j.1 + (1 : Int32) → j.1 ≤ 1) ⟨sz, by omega⟩ q
theorem own_repK {arr : List Int64} {i n : Nat} {k v : Int64} {hs : Int64 → Nat} {D : Int64 → Prop} {mm : Int64 → Int64} {sz : Nat} (hl : arr.length = 2 * n) (R : own_Rep (own_K arr) (own_W arr) n hs D mm sz) (hi : i < n) (hk : k ≠ own_FREE) (I : own_Idx (own_K arr) n (hs k) k i) (hne : ¬ own_K arr i = k) :
    ¬ D k ∧ own_Rep (own_K ((arr.set (2 * i) k).set (2 * i + 1) v)) (own_W ((arr.set (2 * i) k).set (2 * i + 1) v)) n hs (fun x => D x ∨ x = k) (fun x => if x = k then mm k + v else mm x) (sz + 1) := by
  have hf : own_K arr i = own_FREE := by obtain ⟨-, -, -, q | q⟩ := I; exact absurd q hne; exact q
  have hD := own_rep_none R I hf
  refine ⟨hD, ?_⟩
  rw [own_Kins hl hi, own_Wins hl hi]
  refine own_rep_eq (own_rep_put R hi hk I hf v) (fun _ => Iff.rfl) (fun x => ?_) rfl
  by_cases q : x = k
  · rw [if_pos q, if_pos q, R.2.2.1 k hD, Int64.zero_add]
  · rw [if_neg q, if_neg q]
theorem own_repW {arr : List Int64} {i n : Nat} {k v : Int64} {hs : Int64 → Nat} {D : Int64 → Prop} {mm : Int64 → Int64} {sz : Nat} (hl : arr.length = 2 * n) (R : own_Rep (own_K arr) (own_W arr) n hs D mm sz) (hi : i < n) (hk : k ≠ own_FREE) (he : own_K arr i = k) :
    D k ∧ own_Rep (own_K (arr.set (2 * i + 1) (own_W arr i + v))) (own_W (arr.set (2 * i + 1) (own_W arr i + v))) n hs (fun x => D x ∨ x = k) (fun x => if x = k then mm k + v else mm x) sz := by
  obtain ⟨hD, hW⟩ := own_rep_dom R hi hk he
  refine ⟨hD, ?_⟩
  rw [own_Kset, own_Wset hl hi]
  refine own_rep_eq (own_rep_found R hi hk he (own_W arr i + v)) (fun x => ⟨Or.inl, fun q => q.elim id fun z => z ▸ hD⟩) (fun x => ?_) rfl
  rw [hW]

theorem pd_3 : parseMethodDescriptor "(JJ)V" = some ⟨[.long, .long], none⟩ := by decide +kernel
theorem d12_0 : decode prog_19_method_9_code 0 = .ok (.new 3, 3) := by decide +kernel
theorem d12_3 : decode prog_19_method_9_code 3 = .ok (.dup, 1) := by decide +kernel
theorem d12_4 : decode prog_19_method_9_code 4 = .ok (.iload_n 1, 1) := by decide +kernel
theorem d12_5 : decode prog_19_method_9_code 5 = .ok (.invokespecial 5, 3) := by decide +kernel
theorem d12_8 : decode prog_19_method_9_code 8 = .ok (.astore_n 2, 1) := by decide +kernel
theorem d12_9 : decode prog_19_method_9_code 9 = .ok (.iconst 0, 1) := by decide +kernel
theorem d12_10 : decode prog_19_method_9_code 10 = .ok (.istore_n 3, 1) := by decide +kernel
theorem d12_11 : decode prog_19_method_9_code 11 = .ok (.iload_n 3, 1) := by decide +kernel
theorem d12_12 : decode prog_19_method_9_code 12 = .ok (.aload_n 0, 1) := by decide +kernel
theorem d12_13 : decode prog_19_method_9_code 13 = .ok (.getfield 14, 3) := by decide +kernel
theorem d12_16 : decode prog_19_method_9_code 16 = .ok (.arraylength, 1) := by decide +kernel
theorem d12_17 : decode prog_19_method_9_code 17 = .ok (.if_icmp .ge 40, 3) := by decide +kernel
theorem d12_20 : decode prog_19_method_9_code 20 = .ok (.aload_n 0, 1) := by decide +kernel
theorem d12_21 : decode prog_19_method_9_code 21 = .ok (.getfield 14, 3) := by decide +kernel
theorem d12_24 : decode prog_19_method_9_code 24 = .ok (.iload_n 3, 1) := by decide +kernel
theorem d12_25 : decode prog_19_method_9_code 25 = .ok (.laload, 1) := by decide +kernel
theorem d12_26 : decode prog_19_method_9_code 26 = .ok (.ldc2_w 18, 3) := by decide +kernel
theorem d12_29 : decode prog_19_method_9_code 29 = .ok (.lcmp, 1) := by decide +kernel
theorem d12_30 : decode prog_19_method_9_code 30 = .ok (.ifCond .eq 21, 3) := by decide +kernel
theorem d12_33 : decode prog_19_method_9_code 33 = .ok (.aload_n 2, 1) := by decide +kernel
theorem d12_34 : decode prog_19_method_9_code 34 = .ok (.aload_n 0, 1) := by decide +kernel
theorem d12_35 : decode prog_19_method_9_code 35 = .ok (.getfield 14, 3) := by decide +kernel
theorem d12_38 : decode prog_19_method_9_code 38 = .ok (.iload_n 3, 1) := by decide +kernel
theorem d12_39 : decode prog_19_method_9_code 39 = .ok (.laload, 1) := by decide +kernel
theorem d12_40 : decode prog_19_method_9_code 40 = .ok (.aload_n 0, 1) := by decide +kernel
theorem d12_41 : decode prog_19_method_9_code 41 = .ok (.getfield 14, 3) := by decide +kernel
theorem d12_44 : decode prog_19_method_9_code 44 = .ok (.iload_n 3, 1) := by decide +kernel
theorem d12_45 : decode prog_19_method_9_code 45 = .ok (.iconst 1, 1) := by decide +kernel
theorem d12_46 : decode prog_19_method_9_code 46 = .ok (.iadd, 1) := by decide +kernel
theorem d12_47 : decode prog_19_method_9_code 47 = .ok (.laload, 1) := by decide +kernel
theorem d12_48 : decode prog_19_method_9_code 48 = .ok (.invokevirtual 59, 3) := by decide +kernel
theorem d12_51 : decode prog_19_method_9_code 51 = .ok (.iinc 3 2, 3) := by decide +kernel
theorem d12_54 : decode prog_19_method_9_code 54 = .ok (.goto (-43), 3) := by decide +kernel
theorem d12_57 : decode prog_19_method_9_code 57 = .ok (.aload_n 0, 1) := by decide +kernel
theorem d12_58 : decode prog_19_method_9_code 58 = .ok (.aload_n 2, 1) := by decide +kernel
theorem d12_59 : decode prog_19_method_9_code 59 = .ok (.getfield 14, 3) := by decide +kernel
theorem d12_62 : decode prog_19_method_9_code 62 = .ok (.putfield 14, 3) := by decide +kernel
theorem d12_65 : decode prog_19_method_9_code 65 = .ok (.aload_n 0, 1) := by decide +kernel
theorem d12_66 : decode prog_19_method_9_code 66 = .ok (.aload_n 2, 1) := by decide +kernel
theorem d12_67 : decode prog_19_method_9_code 67 = .ok (.getfield 24, 3) := by decide +kernel
theorem d12_70 : decode prog_19_method_9_code 70 = .ok (.putfield 24, 3) := by decide +kernel
theorem d12_73 : decode prog_19_method_9_code 73 = .ok (.return_, 1) := by decide +kernel
theorem pn_12 : plainName "com/example/pricewright/pricewright/core/LongSumTable" = true := by first | (simp [plainName, overriddenIn]; done) | decide +kernel
theorem ef_rmR (m : MethodId) (a1 : Addr) : entryFrame m #[(.ref a1), (.int (8 : Int32))] 4 = mkF m 0 #[.val (.ref a1), .val (.int (8 : Int32)), .unset, .unset] [] := by first | (simp [entryFrame, mkF, argsToLocals, Value.category]; done) | rfl
def QrmR (Z : State) (a1 : Addr) (a : Addr) (k : ClassId) (arr : List Int64) (zi : Int32) (D : Int64 → Prop) (mm : Int64 → Int64) (sz : Nat) (h0 : Heap) (n0 : Nat) (v : Option Value) (h : Heap) (L : List Loc) : Prop := v = none ∧ Fr n0 L ∧ n0 ≤ h.size ∧ ∃ (a' : Addr) (k' : ClassId) (arr' : List Int64), n0 ≤ a' ∧ Exa Z h a1 "com/example/pricewright/pricewright/core/LongSumTable" ∧ Fld Z h a1 "com/example/pricewright/pricewright/core/LongSumTable" "slots" "[J" (.ref a') ∧ Fld Z h a1 "com/example/pricewright/pricewright/core/LongSumTable" "shift" "I" (.int (61 : Int32)) ∧ Fld Z h a1 "com/example/pricewright/pricewright/core/LongSumTable" "size" "I" (.int zi) ∧ Fld Z h a1 "com/example/pricewright/pricewright/core/LongSumTable" "sorted" "[J" .null ∧ Arv Z h a' k' .long (16 : Int32) (arr'.map Value.long) (.long (0 : Int64)) ∧ arr'.length = 2 * 8 ∧ own_Rep (own_K arr') (own_W arr') 8 (own_hs 8) D mm sz
set_option maxRecDepth 65536 in
set_option maxHeartbeats 40000000 in
theorem rmR (l : Launch) (Z : State) (a0 : Array Value) (hw : ∀ d ∈ tables_1, d.before a0 Z = true) (ws : List Jvm.Cond) (a1 : Addr) (a : Addr) (k : ClassId) (arr : List Int64) (zi : Int32) (D : Int64 → Prop) (mm : Int64 → Int64) (sz : Nat) (h0 : Heap) (n0 : Nat) (Z0 : n0 ≤ h0.size) (E : Exa Z h0 a1 "com/example/pricewright/pricewright/core/LongSumTable") (FS : Fld Z h0 a1 "com/example/pricewright/pricewright/core/LongSumTable" "slots" "[J" (.ref a)) (FH : Fld Z h0 a1 "com/example/pricewright/pricewright/core/LongSumTable" "shift" "I" (.int (62 : Int32))) (FZ : Fld Z h0 a1 "com/example/pricewright/pricewright/core/LongSumTable" "size" "I" (.int zi)) (FQ : Fld Z h0 a1 "com/example/pricewright/pricewright/core/LongSumTable" "sorted" "[J" .null) (AV : Arv Z h0 a k .long (8 : Int32) (arr.map Value.long) (.long (0 : Int64))) (hlen : arr.length = 2 * 4) (hne : a1 ≠ a) (ga1 : n0 ≤ a1) (ga : n0 ≤ a) (Rp : own_Rep (own_K arr) (own_W arr) 4 (own_hs 4) D mm sz) :
    MetFree l (⟨"com/example/pricewright/pricewright/core/LongSumTable", "resize", "(I)V"⟩ : MethodName) (head1 (Jvm.Cond.code (⟨"com/example/pricewright/pricewright/core/LongSumTable", "resize", "(I)V"⟩ : MethodName) prog_19_method_9_code 4 none :: ws) ({ frames := 3, cells := 2, slots := 20, locals := 44 } : Room)) (fun a U => a = #[(.ref a1), (.int (8 : Int32))] ∧ Z.Warmed39 U.vm ∧ U.heap = h0) (fun _ _ _ _ _ => True) (fun _ U o U' => ∃ v L, o = .returned v ∧ QrmR Z a1 a k arr zi D mm sz h0 n0 v U'.heap L ∧ FrameEnd U o U' L ({ frames := 3, cells := 2, slots := 20, locals := 44 } : Room).cells ({ frames := 3, cells := 2, slots := 20, locals := 44 } : Room).slots) := by
  refine MetFree.of_bodySF (plainFor_of_name pn_12) hisR ?_
  intro p e s m args below meth c s₁ Bd hml0 hP hK
  obtain ⟨rfl, hZ, hh⟩ := hP
  have hx := Bd.exec
  have hby := Bd.bytes
  have hml : c.maxLocals = 4 := hml0
  have hown : s.vm.findClass "com/example/pricewright/pricewright/core/LongSumTable" = some m.cls := findClass_of_methodNamed Bd.named
  have hnm := (name_of_methodNamed Bd.named Bd.method).1
  have X0 : Stand p l e ({ frames := 3, cells := 2, slots := 20, locals := 44 } : Room) s m #[(.ref a1), (.int (8 : Int32))] below meth c s₁ [] 0 0 := Stand.of_body Bd
  have e0 : s₁.heap = h0 := by rw [← hh, Bd.state]; rfl
  have N0 := Fr.nil n0
  have pre0 : ∀ t, Steps p.tables e below (s₁.setTop (mkF m 0 #[.val (.ref a1), .val (.int (8 : Int32)), .unset, .unset] [])) t → Steps p.tables e below (s₁.setTop (entryFrame m #[(.ref a1), (.int (8 : Int32))] 4)) t := fun t k => castTop (ef_rmR m a1) k
  obtain ⟨T1, h1, X1, e1, E1, A1, D1, -, st1⟩ := newO X0 hx hZ hown (hw _ (List.mem_of_getElem? (i := 62) rfl)) (hw _ (List.mem_of_getElem? (i := 7) rfl)) (hw _ (List.mem_of_getElem? (i := 8) rfl)) e0 (g := (mkF m 0 #[.val (.ref a1), .val (.int (8 : Int32)), .unset, .unset] [])) rfl (hb hby d12_0) (by decide) (by decide)
  obtain ⟨b1o, g1⟩ : ∃ z, z = h0.size := ⟨_, rfl⟩
  have b1 : n0 ≤ b1o := Nat.le_trans Z0 (Nat.le_of_eq g1.symm)
  have ne2 : a1 ≠ b1o := Nat.ne_of_lt (Nat.lt_of_lt_of_le E.lt (Nat.le_of_eq g1.symm))
  have ne3 : a ≠ b1o := Nat.ne_of_lt (Nat.lt_of_lt_of_le AV.lt (Nat.le_of_eq g1.symm))
  rw [← g1] at A1 D1 st1
  have Z1 : n0 ≤ h1.size := Nat.le_trans Z0 E1.1
  have F1_20 : Fld Z h1 b1o "com/example/pricewright/pricewright/core/LongSumTable" "slots" "[J" .null := D1 (Or.inl (hw _ (List.mem_of_getElem? (i := 20) rfl))) (ty := (.array .long)) (by decide)
  have F1_32 : Fld Z h1 b1o "com/example/pricewright/pricewright/core/LongSumTable" "shift" "I" (.int (0 : Int32)) := D1 (Or.inl (hw _ (List.mem_of_getElem? (i := 32) rfl))) (ty := .int) (by decide)
  have F1_47 : Fld Z h1 b1o "com/example/pricewright/pricewright/core/LongSumTable" "sorted" "[J" .null := D1 (Or.inl (hw _ (List.mem_of_getElem? (i := 47) rfl))) (ty := (.array .long)) (by decide)
  have F1_49 : Fld Z h1 b1o "com/example/pricewright/pricewright/core/LongSumTable" "size" "I" (.int (0 : Int32)) := D1 (Or.inl (hw _ (List.mem_of_getElem? (i := 49) rfl))) (ty := .int) (by decide)
  have f5 := (E.ext E1)
  have f6 := (FS.ext E1)
  have f7 := (FH.ext E1)
  have f8 := (FZ.ext E1)
  have f9 := (FQ.ext E1)
  have f10 := (AV.ext E1)
  obtain ⟨_, _, ⟨T4, L4, k4, n4⟩, -, X4, ⟨Lc4, hQ4, l4, y4, z4⟩, st4⟩ := X1.specialBack hx (y := (⟨"com/example/pricewright/pricewright/core/LongSumTable", "<init>", "(I)V"⟩ : MethodName)) rfl hown (mvT hZ (hw _ (List.mem_of_getElem? (i := 12) rfl))) (mvT hZ (hw _ (List.mem_of_getElem? (i := 13) rfl))) (mvT hZ (hw _ (List.mem_of_getElem? (i := 14) rfl))) (by decide) (backOf (W := 1) (rmI8 l Z a0 hw [] b1o  h1 n0 Z1 A1 F1_20 F1_32 F1_49 F1_47 b1) hZ (hw _ (List.mem_of_getElem? (i := 14) rfl)) (hw _ (List.mem_of_getElem? (i := 8) rfl)) (by decide) (by decide)) (g := (mkF m 5 #[.val (.ref a1), .val (.int (8 : Int32)), .unset, .unset] [(.int (8 : Int32)), (.ref b1o), (.ref b1o)])) rfl (by rw [hml]; rfl) (Steps.refl _) (a := b1o) (argsL := [(.int (8 : Int32))]) (rest := [(.ref b1o)]) (lenOf pd_2 rfl) rfl (by show 2 * 0 + _ ≤ _; exact Nat.le_of_eq rfl) (hb hby d12_5) (fun _ _ => ⟨rfl, e1, (by decide : 1 + 1 ≤ _), (by decide : 4 + 16 ≤ _)⟩)
  dsimp only [Pt.U, Pt.locs, Pt.cells, Pt.slots] at X4 l4 y4 z4 st4 hQ4
  subst l4 y4 z4
  obtain ⟨rfl, N4q, KC4, u4⟩ := hQ4
  have N4 := Fr.app N0 N4q
  have Z4 : n0 ≤ T4.heap.size := Nat.le_trans Z1 KC4.1
  obtain ⟨sa4, sk4, ga4, gk4, EI4, FS4, FH4, FZ4, FQ4, AV4⟩ := id u4
  have net4 : b1o ≠ sa4 := ne_arrV (EI4) (hw _ (List.mem_of_getElem? (i := 7) rfl)) AV4
  have ne11 : a1 ≠ sa4 := Nat.ne_of_lt (Nat.lt_of_lt_of_le f9.lt gk4)
  have ne12 : a ≠ sa4 := Nat.ne_of_lt (Nat.lt_of_lt_of_le f10.lt gk4)
  have rep0 := own_part_none (K := own_K arr) (W2 := own_W own_new8) (hs2 := own_hs 8) (m := mm) own_new8K
  have tn13 : ∃ (T' : State) (h' : Heap) (arr2 : List Int64) (L' : List Loc), Stand p l e ({ frames := 3, cells := 2, slots := 20, locals := 44 } : Room) s m #[(.ref a1), (.int (8 : Int32))] below meth c T' L' 2 20 ∧ T'.heap = h' ∧ Fr n0 L' ∧ n0 ≤ h'.size ∧ Keep T4.heap h' [sa4] ∧ arr2.length = 2 * 8 ∧ Arv Z h' sa4 sk4 .long (16 : Int32) (arr2.map Value.long) (.long (0 : Int64)) ∧ own_Rep (own_K arr2) (own_W arr2) 8 (own_hs 8) (own_Part (own_K arr) 1) (fun x => @ite _ (own_Part (own_K arr) 1 x) (Classical.propDecidable _) (mm x) 0) (own_cnt (own_K arr) 1) ∧ ∀ target, Steps p.tables e below (T'.setTop (mkF m 11 #[.val (.ref a1), .val (.int (8 : Int32)), .val (.ref b1o), .val (.int (2 : Int32))] [])) target → Steps p.tables e below (T4.setTop (mkF m 11 #[.val (.ref a1), .val (.int (8 : Int32)), .val (.ref b1o), .val (.int (0 : Int32))] [])) target := by
    have f14 := (f6.keep KC4 (ninS ne2 nin0))
    obtain ⟨T15, X15, e15, st15⟩ := getF X4 hx hZ hown (host := "") (Or.inl (hw _ (List.mem_of_getElem? (i := 19) rfl))) Via.refl rfl f14 (g := (mkF m 13 #[.val (.ref a1), .val (.int (8 : Int32)), .val (.ref b1o), .val (.int (0 : Int32))] [(.ref a1), (.int (0 : Int32))])) rfl rfl (hb hby d12_13)
    have f16 := (f10.keep KC4 (ninS ne3 nin0))
    obtain ⟨cl17, Ar17, qk17, Sz17, Nn17, Hh17, Gg17⟩ := id (f16)
    obtain ⟨T18, X18, e18, st18⟩ := getF X15 hx hZ hown (host := "") (Or.inl (hw _ (List.mem_of_getElem? (i := 19) rfl))) Via.refl e15 f14 (g := (mkF m 21 #[.val (.ref a1), .val (.int (8 : Int32)), .val (.ref b1o), .val (.int (0 : Int32))] [(.ref a1)])) rfl rfl (hb hby d12_21)
    obtain ⟨cl19, Ar19, qk19, Sz19, Nn19, Hh19, Gg19⟩ := id (f16)
    have hin20 : ¬ ((0 : Int32) < 0 ∨ cl19.slots.size ≤ ((0 : Int32)).toNatClampNeg) := inb_of Sz19 ⟨by decide, by decide⟩
    have hat20 : cl19.slots[((0 : Int32)).toNatClampNeg]? = some (.long (own_K arr 0)) := Has.at Hh19 hin20 (own_ld arr 0)
    by_cases hc30 : (own_K arr 0) = (-9223372036854775808 : Int64)
    · refine ⟨T18, _, own_new8, _, X18, e18, N4, Z4, Keep.refl _ _, (rfl : own_new8.length = 2 * 8), AV4, own_part_skip rep0 hc30, fun target kt => ?_⟩
      show Steps p.tables e below (T4.setTop (mkF m 11 #[.val (.ref a1), .val (.int (8 : Int32)), .val (.ref b1o), .val (.int (0 : Int32))] [])) _
      refine XS.iloadN X4.here hx rfl (hb hby d12_11) rfl ?_
      show Steps p.tables e below (T4.setTop (mkF m 12 #[.val (.ref a1), .val (.int (8 : Int32)), .val (.ref b1o), .val (.int (0 : Int32))] [(.int (0 : Int32))])) _
      refine XS.aloadN X4.here hx rfl (hb hby d12_12) rfl rfl ?_
      show Steps p.tables e below (T4.setTop (mkF m 13 #[.val (.ref a1), .val (.int (8 : Int32)), .val (.ref b1o), .val (.int (0 : Int32))] [(.ref a1), (.int (0 : Int32))])) _
      refine st15 _ ?_
      show Steps p.tables e below (T15.setTop (mkF m 16 #[.val (.ref a1), .val (.int (8 : Int32)), .val (.ref b1o), .val (.int (0 : Int32))] [(.ref a), (.int (0 : Int32))])) _
      refine X15.arraylength hx (by rw [e15]; exact Ar17.1) (State.isArrayOf_alike hZ.alike Ar17.2.1) (g := (mkF m 16 #[.val (.ref a1), .val (.int (8 : Int32)), .val (.ref b1o), .val (.int (0 : Int32))] [(.ref a), (.int (0 : Int32))])) rfl rfl (hb hby d12_16) _ ?_
      rw [len_of Sz17 Nn17]
      show Steps p.tables e below (T15.setTop (mkF m 17 #[.val (.ref a1), .val (.int (8 : Int32)), .val (.ref b1o), .val (.int (0 : Int32))] [(.int (8 : Int32)), (.int (0 : Int32))])) _
      refine XS.icmpNo X15.here hx rfl (hb hby d12_17) rfl (tlt (by decide)).2.1 ?_
      show Steps p.tables e below (T15.setTop (mkF m 20 #[.val (.ref a1), .val (.int (8 : Int32)), .val (.ref b1o), .val (.int (0 : Int32))] [])) _
      refine XS.aloadN X15.here hx rfl (hb hby d12_20) rfl rfl ?_
      show Steps p.tables e below (T15.setTop (mkF m 21 #[.val (.ref a1), .val (.int (8 : Int32)), .val (.ref b1o), .val (.int (0 : Int32))] [(.ref a1)])) _
      refine st18 _ ?_
      show Steps p.tables e below (T18.setTop (mkF m 24 #[.val (.ref a1), .val (.int (8 : Int32)), .val (.ref b1o), .val (.int (0 : Int32))] [(.ref a)])) _
      refine XS.iloadN X18.here hx rfl (hb hby d12_24) rfl ?_
      show Steps p.tables e below (T18.setTop (mkF m 25 #[.val (.ref a1), .val (.int (8 : Int32)), .val (.ref b1o), .val (.int (0 : Int32))] [(.int (0 : Int32)), (.ref a)])) _
      refine X18.laload hx (j := (0 : Int32)) (v := (.long (own_K arr 0))) (by rw [e18]; exact Ar19.1) (State.isArrayOf_alike hZ.alike Ar19.2.1) Ar19.2.2 hin20 hat20 (g := (mkF m 25 #[.val (.ref a1), .val (.int (8 : Int32)), .val (.ref b1o), .val (.int (0 : Int32))] [(.int (0 : Int32)), (.ref a)])) rfl rfl (hb hby d12_25) _ ?_
      show Steps p.tables e below (T18.setTop (mkF m 26 #[.val (.ref a1), .val (.int (8 : Int32)), .val (.ref b1o), .val (.int (0 : Int32))] [(.long (own_K arr 0))])) _
      refine X18.ldc2Long hx hown (mvT hZ (hw _ (List.mem_of_getElem? (i := 21) rfl))) (g := (mkF m 26 #[.val (.ref a1), .val (.int (8 : Int32)), .val (.ref b1o), .val (.int (0 : Int32))] [(.long (own_K arr 0))])) rfl (hb hby d12_26) _ ?_
      show Steps p.tables e below (T18.setTop (mkF m 29 #[.val (.ref a1), .val (.int (8 : Int32)), .val (.ref b1o), .val (.int (0 : Int32))] [(.long (-9223372036854775808 : Int64)), (.long (own_K arr 0))])) _
      refine XS.lcmp X18.here hx rfl (hb hby d12_29) rfl ?_
      show Steps p.tables e below (T18.setTop (mkF m 30 #[.val (.ref a1), .val (.int (8 : Int32)), .val (.ref b1o), .val (.int (0 : Int32))] [(.int (lcmpW (own_K arr 0) (-9223372036854775808 : Int64)))])) _
      refine XS.ifYes X18.here hx rfl (pc0 := 30) (pc' := 51) rfl (hb hby d12_30) rfl ((if0 _ _).trans (teq (own_lceq hc30)).1) (by decide) (by decide) ?_
      show Steps p.tables e below (T18.setTop (mkF m 51 #[.val (.ref a1), .val (.int (8 : Int32)), .val (.ref b1o), .val (.int (0 : Int32))] [])) _
      refine XS.iinc X18.here hx rfl (hb hby d12_51) rfl (l' := #[.val (.ref a1), .val (.int (8 : Int32)), .val (.ref b1o), .val (.int (2 : Int32))]) rfl ?_
      show Steps p.tables e below (T18.setTop (mkF m 54 #[.val (.ref a1), .val (.int (8 : Int32)), .val (.ref b1o), .val (.int (2 : Int32))] [])) _
      refine XS.goto X18.here hx rfl (pc0 := 54) (pc' := 11) rfl (hb hby d12_54) (by decide) (by decide) ?_
      exact kt
    · obtain ⟨T21, X21, e21, st21⟩ := getF X18 hx hZ hown (host := "") (Or.inl (hw _ (List.mem_of_getElem? (i := 19) rfl))) Via.refl e18 f14 (g := (mkF m 35 #[.val (.ref a1), .val (.int (8 : Int32)), .val (.ref b1o), .val (.int (0 : Int32))] [(.ref a1), (.ref b1o)])) rfl rfl (hb hby d12_35)
      obtain ⟨cl22, Ar22, qk22, Sz22, Nn22, Hh22, Gg22⟩ := id (f16)
      have hin23 : ¬ ((0 : Int32) < 0 ∨ cl22.slots.size ≤ ((0 : Int32)).toNatClampNeg) := inb_of Sz22 ⟨by decide, by decide⟩
      have hat23 : cl22.slots[((0 : Int32)).toNatClampNeg]? = some (.long (own_K arr 0)) := Has.at Hh22 hin23 (own_ld arr 0)
      obtain ⟨T24, X24, e24, st24⟩ := getF X21 hx hZ hown (host := "") (Or.inl (hw _ (List.mem_of_getElem? (i := 19) rfl))) Via.refl e21 f14 (g := (mkF m 41 #[.val (.ref a1), .val (.int (8 : Int32)), .val (.ref b1o), .val (.int (0 : Int32))] [(.ref a1), (.long (own_K arr 0)), (.ref b1o)])) rfl rfl (hb hby d12_41)
      obtain ⟨cl25, Ar25, qk25, Sz25, Nn25, Hh25, Gg25⟩ := id (f16)
      have hin26 : ¬ ((1 : Int32) < 0 ∨ cl25.slots.size ≤ ((1 : Int32)).toNatClampNeg) := inb_of Sz25 ⟨by decide, by decide⟩
      have hat26 : cl25.slots[((1 : Int32)).toNatClampNeg]? = some (.long (own_W arr 0)) := Has.at Hh25 hin26 (own_ld arr 1)
      have hfr : ∃ j, j < 8 ∧ own_K (own_new8) j = own_FREE := own_cnt_free (by rw [rep0.2.2.2]; have := own_cnt_le (own_K arr) 0; omega)
      obtain ⟨cq27, qq27, qq27'⟩ := EI4.cell
      obtain ⟨_, _, ⟨T27, L27, k27, n27⟩, -, X27, ⟨Lc27, hQ27, l27, y27, z27⟩, st27⟩ := X24.privateBack hx (y := (⟨"com/example/pricewright/pricewright/core/LongSumTable", "put", "(JJ)V"⟩ : MethodName)) hown (mvT hZ (hw _ (List.mem_of_getElem? (i := 63) rfl))) (mvT hZ (hw _ (List.mem_of_getElem? (i := 64) rfl))) (own_selpriv (mvT hZ (hw _ (List.mem_of_getElem? (i := 7) rfl))) (Cond.privateMethod_at (mvP hZ (hw _ (List.mem_of_getElem? (i := 65) rfl)) (args := #[]))) (mvT hZ (hw _ (List.mem_of_getElem? (i := 64) rfl))) (by decide)) (Cond.privateMethod_at (mvP hZ (hw _ (List.mem_of_getElem? (i := 65) rfl)) (args := #[]))) (mvT hZ (hw _ (List.mem_of_getElem? (i := 66) rfl))) (by decide) (backOf (W := 0) (rmP l Z a0 hw [] b1o (own_K arr 0) (own_W arr 0) sa4 sk4 (own_new8) 8 (61 : Int32) T4.heap n0 Z4 (Or.inr ⟨rfl, rfl⟩) EI4 FS4 FH4 AV4 hfr (rfl : own_new8.length = 2 * 8) net4 ga4) hZ (hw _ (List.mem_of_getElem? (i := 66) rfl)) (hw _ (List.mem_of_getElem? (i := 8) rfl)) (by decide) (by decide)) (g := (mkF m 48 #[.val (.ref a1), .val (.int (8 : Int32)), .val (.ref b1o), .val (.int (0 : Int32))] [(.long (own_W arr 0)), (.long (own_K arr 0)), (.ref b1o)])) rfl (by rw [hml]; rfl) (Steps.refl _) (a := b1o) (by rw [e24]; exact qq27) qq27' (argsL := [(.long (own_K arr 0)), (.long (own_W arr 0))]) (rest := []) (lenOf pd_3 rfl) rfl (by show 2 * 0 + _ ≤ _; exact Nat.le_of_eq rfl) (hb hby d12_48) (fun _ _ => ⟨rfl, e24, (by decide : 2 + 0 ≤ _), (by decide : 20 + 0 ≤ _)⟩)
      dsimp only [Pt.U, Pt.locs, Pt.cells, Pt.slots] at X27 l27 y27 z27 st27 hQ27
      subst l27 y27 z27
      obtain ⟨rfl, N27q, KC27, u27⟩ := hQ27
      have N27 := Fr.app N4 N27q
      have Z27 : n0 ≤ T27.heap.size := Nat.le_trans Z4 KC27.1
      obtain ⟨i27, hi27, P27, AV27⟩ := u27
      have pp := own_part_put Rp (i := 0) (by decide) hc30 rep0 hi27 P27
      refine ⟨T27, _, ((own_new8.set (2 * i27) (own_K arr 0)).set (2 * i27 + 1) (own_W arr 0)), _, X27, rfl, N27, Z27, KC27, by rw [List.length_set, List.length_set]; exact (rfl : own_new8.length = 2 * 8), AV27, by rw [own_Kins (rfl : own_new8.length = 2 * 8) hi27, own_Wins (rfl : own_new8.length = 2 * 8) hi27]; exact pp.2, fun target kt => ?_⟩
      show Steps p.tables e below (T4.setTop (mkF m 11 #[.val (.ref a1), .val (.int (8 : Int32)), .val (.ref b1o), .val (.int (0 : Int32))] [])) _
      refine XS.iloadN X4.here hx rfl (hb hby d12_11) rfl ?_
      show Steps p.tables e below (T4.setTop (mkF m 12 #[.val (.ref a1), .val (.int (8 : Int32)), .val (.ref b1o), .val (.int (0 : Int32))] [(.int (0 : Int32))])) _
      refine XS.aloadN X4.here hx rfl (hb hby d12_12) rfl rfl ?_
      show Steps p.tables e below (T4.setTop (mkF m 13 #[.val (.ref a1), .val (.int (8 : Int32)), .val (.ref b1o), .val (.int (0 : Int32))] [(.ref a1), (.int (0 : Int32))])) _
      refine st15 _ ?_
      show Steps p.tables e below (T15.setTop (mkF m 16 #[.val (.ref a1), .val (.int (8 : Int32)), .val (.ref b1o), .val (.int (0 : Int32))] [(.ref a), (.int (0 : Int32))])) _
      refine X15.arraylength hx (by rw [e15]; exact Ar17.1) (State.isArrayOf_alike hZ.alike Ar17.2.1) (g := (mkF m 16 #[.val (.ref a1), .val (.int (8 : Int32)), .val (.ref b1o), .val (.int (0 : Int32))] [(.ref a), (.int (0 : Int32))])) rfl rfl (hb hby d12_16) _ ?_
      rw [len_of Sz17 Nn17]
      show Steps p.tables e below (T15.setTop (mkF m 17 #[.val (.ref a1), .val (.int (8 : Int32)), .val (.ref b1o), .val (.int (0 : Int32))] [(.int (8 : Int32)), (.int (0 : Int32))])) _
      refine XS.icmpNo X15.here hx rfl (hb hby d12_17) rfl (tlt (by decide)).2.1 ?_
      show Steps p.tables e below (T15.setTop (mkF m 20 #[.val (.ref a1), .val (.int (8 : Int32)), .val (.ref b1o), .val (.int (0 : Int32))] [])) _
      refine XS.aloadN X15.here hx rfl (hb hby d12_20) rfl rfl ?_
      show Steps p.tables e below (T15.setTop (mkF m 21 #[.val (.ref a1), .val (.int (8 : Int32)), .val (.ref b1o), .val (.int (0 : Int32))] [(.ref a1)])) _
      refine st18 _ ?_
      show Steps p.tables e below (T18.setTop (mkF m 24 #[.val (.ref a1), .val (.int (8 : Int32)), .val (.ref b1o), .val (.int (0 : Int32))] [(.ref a)])) _
      refine XS.iloadN X18.here hx rfl (hb hby d12_24) rfl ?_
      show Steps p.tables e below (T18.setTop (mkF m 25 #[.val (.ref a1), .val (.int (8 : Int32)), .val (.ref b1o), .val (.int (0 : Int32))] [(.int (0 : Int32)), (.ref a)])) _
      refine X18.laload hx (j := (0 : Int32)) (v := (.long (own_K arr 0))) (by rw [e18]; exact Ar19.1) (State.isArrayOf_alike hZ.alike Ar19.2.1) Ar19.2.2 hin20 hat20 (g := (mkF m 25 #[.val (.ref a1), .val (.int (8 : Int32)), .val (.ref b1o), .val (.int (0 : Int32))] [(.int (0 : Int32)), (.ref a)])) rfl rfl (hb hby d12_25) _ ?_
      show Steps p.tables e below (T18.setTop (mkF m 26 #[.val (.ref a1), .val (.int (8 : Int32)), .val (.ref b1o), .val (.int (0 : Int32))] [(.long (own_K arr 0))])) _
      refine X18.ldc2Long hx hown (mvT hZ (hw _ (List.mem_of_getElem? (i := 21) rfl))) (g := (mkF m 26 #[.val (.ref a1), .val (.int (8 : Int32)), .val (.ref b1o), .val (.int (0 : Int32))] [(.long (own_K arr 0))])) rfl (hb hby d12_26) _ ?_
      show Steps p.tables e below (T18.setTop (mkF m 29 #[.val (.ref a1), .val (.int (8 : Int32)), .val (.ref b1o), .val (.int (0 : Int32))] [(.long (-9223372036854775808 : Int64)), (.long (own_K arr 0))])) _
      refine XS.lcmp X18.here hx rfl (hb hby d12_29) rfl ?_
      show Steps p.tables e below (T18.setTop (mkF m 30 #[.val (.ref a1), .val (.int (8 : Int32)), .val (.ref b1o), .val (.int (0 : Int32))] [(.int (lcmpW (own_K arr 0) (-9223372036854775808 : Int64)))])) _
      refine XS.ifNo X18.here hx rfl (hb hby d12_30) rfl ((if0 _ _).trans (feq (own_lcne hc30)).1) ?_
      show Steps p.tables e below (T18.setTop (mkF m 33 #[.val (.ref a1), .val (.int (8 : Int32)), .val (.ref b1o), .val (.int (0 : Int32))] [])) _
      refine XS.aloadN X18.here hx rfl (hb hby d12_33) rfl rfl ?_
      show Steps p.tables e below (T18.setTop (mkF m 34 #[.val (.ref a1), .val (.int (8 : Int32)), .val (.ref b1o), .val (.int (0 : Int32))] [(.ref b1o)])) _
      refine XS.aloadN X18.here hx rfl (hb hby d12_34) rfl rfl ?_
      show Steps p.tables e below (T18.setTop (mkF m 35 #[.val (.ref a1), .val (.int (8 : Int32)), .val (.ref b1o), .val (.int (0 : Int32))] [(.ref a1), (.ref b1o)])) _
      refine st21 _ ?_
      show Steps p.tables e below (T21.setTop (mkF m 38 #[.val (.ref a1), .val (.int (8 : Int32)), .val (.ref b1o), .val (.int (0 : Int32))] [(.ref a), (.ref b1o)])) _
      refine XS.iloadN X21.here hx rfl (hb hby d12_38) rfl ?_
      show Steps p.tables e below (T21.setTop (mkF m 39 #[.val (.ref a1), .val (.int (8 : Int32)), .val (.ref b1o), .val (.int (0 : Int32))] [(.int (0 : Int32)), (.ref a), (.ref b1o)])) _
      refine X21.laload hx (j := (0 : Int32)) (v := (.long (own_K arr 0))) (by rw [e21]; exact Ar22.1) (State.isArrayOf_alike hZ.alike Ar22.2.1) Ar22.2.2 hin23 hat23 (g := (mkF m 39 #[.val (.ref a1), .val (.int (8 : Int32)), .val (.ref b1o), .val (.int (0 : Int32))] [(.int (0 : Int32)), (.ref a), (.ref b1o)])) rfl rfl (hb hby d12_39) _ ?_
      show Steps p.tables e below (T21.setTop (mkF m 40 #[.val (.ref a1), .val (.int (8 : Int32)), .val (.ref b1o), .val (.int (0 : Int32))] [(.long (own_K arr 0)), (.ref b1o)])) _
      refine XS.aloadN X21.here hx rfl (hb hby d12_40) rfl rfl ?_
      show Steps p.tables e below (T21.setTop (mkF m 41 #[.val (.ref a1), .val (.int (8 : Int32)), .val (.ref b1o), .val (.int (0 : Int32))] [(.ref a1), (.long (own_K arr 0)), (.ref b1o)])) _
      refine st24 _ ?_
      show Steps p.tables e below (T24.setTop (mkF m 44 #[.val (.ref a1), .val (.int (8 : Int32)), .val (.ref b1o), .val (.int (0 : Int32))] [(.ref a), (.long (own_K arr 0)), (.ref b1o)])) _
      refine XS.iloadN X24.here hx rfl (hb hby d12_44) rfl ?_
      show Steps p.tables e below (T24.setTop (mkF m 45 #[.val (.ref a1), .val (.int (8 : Int32)), .val (.ref b1o), .val (.int (0 : Int32))] [(.int (0 : Int32)), (.ref a), (.long (own_K arr 0)), (.ref b1o)])) _
      refine XS.iconst X24.here hx rfl (hb hby d12_45) ?_
      show Steps p.tables e below (T24.setTop (mkF m 46 #[.val (.ref a1), .val (.int (8 : Int32)), .val (.ref b1o), .val (.int (0 : Int32))] [(.int (1 : Int32)), (.int (0 : Int32)), (.ref a), (.long (own_K arr 0)), (.ref b1o)])) _
      refine XS.iadd X24.here hx rfl (hb hby d12_46) rfl ?_
      show Steps p.tables e below (T24.setTop (mkF m 47 #[.val (.ref a1), .val (.int (8 : Int32)), .val (.ref b1o), .val (.int (0 : Int32))] [(.int (1 : Int32)), (.ref a), (.long (own_K arr 0)), (.ref b1o)])) _
      refine X24.laload hx (j := (1 : Int32)) (v := (.long (own_W arr 0))) (by rw [e24]; exact Ar25.1) (State.isArrayOf_alike hZ.alike Ar25.2.1) Ar25.2.2 hin26 hat26 (g := (mkF m 47 #[.val (.ref a1), .val (.int (8 : Int32)), .val (.ref b1o), .val (.int (0 : Int32))] [(.int (1 : Int32)), (.ref a), (.long (own_K arr 0)), (.ref b1o)])) rfl rfl (hb hby d12_47) _ ?_
      show Steps p.tables e below (T24.setTop (mkF m 48 #[.val (.ref a1), .val (.int (8 : Int32)), .val (.ref b1o), .val (.int (0 : Int32))] [(.long (own_W arr 0)), (.long (own_K arr 0)), (.ref b1o)])) _
      refine st27.trans ?_
      show Steps p.tables e below (T27.setTop (mkF m 51 #[.val (.ref a1), .val (.int (8 : Int32)), .val (.ref b1o), .val (.int (0 : Int32))] [])) _
      refine XS.iinc X27.here hx rfl (hb hby d12_51) rfl (l' := #[.val (.ref a1), .val (.int (8 : Int32)), .val (.ref b1o), .val (.int (2 : Int32))]) rfl ?_
      show Steps p.tables e below (T27.setTop (mkF m 54 #[.val (.ref a1), .val (.int (8 : Int32)), .val (.ref b1o), .val (.int (2 : Int32))] [])) _
      refine XS.goto X27.here hx rfl (pc0 := 54) (pc' := 11) rfl (hb hby d12_54) (by decide) (by decide) ?_
      exact kt
  obtain ⟨T13, h13, ar13, L13, X13, e13, N13, Z13, KT13, hl13, AV13, rp13, st13⟩ := tn13
  have tn28 : ∃ (T' : State) (h' : Heap) (arr2 : List Int64) (L' : List Loc), Stand p l e ({ frames := 3, cells := 2, slots := 20, locals := 44 } : Room) s m #[(.ref a1), (.int (8 : Int32))] below meth c T' L' 2 20 ∧ T'.heap = h' ∧ Fr n0 L' ∧ n0 ≤ h'.size ∧ Keep h13 h' [sa4] ∧ arr2.length = 2 * 8 ∧ Arv Z h' sa4 sk4 .long (16 : Int32) (arr2.map Value.long) (.long (0 : Int64)) ∧ own_Rep (own_K arr2) (own_W arr2) 8 (own_hs 8) (own_Part (own_K arr) 2) (fun x => @ite _ (own_Part (own_K arr) 2 x) (Classical.propDecidable _) (mm x) 0) (own_cnt (own_K arr) 2) ∧ ∀ target, Steps p.tables e below (T'.setTop (mkF m 11 #[.val (.ref a1), .val (.int (8 : Int32)), .val (.ref b1o), .val (.int (4 : Int32))] [])) target → Steps p.tables e below (T13.setTop (mkF m 11 #[.val (.ref a1), .val (.int (8 : Int32)), .val (.ref b1o), .val (.int (2 : Int32))] [])) target := by
    have f29 := ((f6.keep KC4 (ninS ne2 nin0)).keep KT13 (ninS ne11 nin0))
    obtain ⟨T30, X30, e30, st30⟩ := getF X13 hx hZ hown (host := "") (Or.inl (hw _ (List.mem_of_getElem? (i := 19) rfl))) Via.refl e13 f29 (g := (mkF m 13 #[.val (.ref a1), .val (.int (8 : Int32)), .val (.ref b1o), .val (.int (2 : Int32))] [(.ref a1), (.int (2 : Int32))])) rfl rfl (hb hby d12_13)
    have f31 := ((f10.keep KC4 (ninS ne3 nin0)).keep KT13 (ninS ne12 nin0))
    obtain ⟨cl32, Ar32, qk32, Sz32, Nn32, Hh32, Gg32⟩ := id (f31)
    obtain ⟨T33, X33, e33, st33⟩ := getF X30 hx hZ hown (host := "") (Or.inl (hw _ (List.mem_of_getElem? (i := 19) rfl))) Via.refl e30 f29 (g := (mkF m 21 #[.val (.ref a1), .val (.int (8 : Int32)), .val (.ref b1o), .val (.int (2 : Int32))] [(.ref a1)])) rfl rfl (hb hby d12_21)
    obtain ⟨cl34, Ar34, qk34, Sz34, Nn34, Hh34, Gg34⟩ := id (f31)
    have hin35 : ¬ ((2 : Int32) < 0 ∨ cl34.slots.size ≤ ((2 : Int32)).toNatClampNeg) := inb_of Sz34 ⟨by decide, by decide⟩
    have hat35 : cl34.slots[((2 : Int32)).toNatClampNeg]? = some (.long (own_K arr 1)) := Has.at Hh34 hin35 (own_ld arr 2)
    by_cases hc30 : (own_K arr 1) = (-9223372036854775808 : Int64)
    · refine ⟨T33, _, ar13, _, X33, e33, N13, Z13, Keep.refl _ _, hl13, AV13, own_part_skip rp13 hc30, fun target kt => ?_⟩
      show Steps p.tables e below (T13.setTop (mkF m 11 #[.val (.ref a1), .val (.int (8 : Int32)), .val (.ref b1o), .val (.int (2 : Int32))] [])) _
      refine XS.iloadN X13.here hx rfl (hb hby d12_11) rfl ?_
      show Steps p.tables e below (T13.setTop (mkF m 12 #[.val (.ref a1), .val (.int (8 : Int32)), .val (.ref b1o), .val (.int (2 : Int32))] [(.int (2 : Int32))])) _
      refine XS.aloadN X13.here hx rfl (hb hby d12_12) rfl rfl ?_
      show Steps p.tables e below (T13.setTop (mkF m 13 #[.val (.ref a1), .val (.int (8 : Int32)), .val (.ref b1o), .val (.int (2 : Int32))] [(.ref a1), (.int (2 : Int32))])) _
      refine st30 _ ?_
      show Steps p.tables e below (T30.setTop (mkF m 16 #[.val (.ref a1), .val (.int (8 : Int32)), .val (.ref b1o), .val (.int (2 : Int32))] [(.ref a), (.int (2 : Int32))])) _
      refine X30.arraylength hx (by rw [e30]; exact Ar32.1) (State.isArrayOf_alike hZ.alike Ar32.2.1) (g := (mkF m 16 #[.val (.ref a1), .val (.int (8 : Int32)), .val (.ref b1o), .val (.int (2 : Int32))] [(.ref a), (.int (2 : Int32))])) rfl rfl (hb hby d12_16) _ ?_
      rw [len_of Sz32 Nn32]
      show Steps p.tables e below (T30.setTop (mkF m 17 #[.val (.ref a1), .val (.int (8 : Int32)), .val (.ref b1o), .val (.int (2 : Int32))] [(.int (8 : Int32)), (.int (2 : Int32))])) _
      refine XS.icmpNo X30.here hx rfl (hb hby d12_17) rfl (tlt (by decide)).2.1 ?_
      show Steps p.tables e below (T30.setTop (mkF m 20 #[.val (.ref a1), .val (.int (8 : Int32)), .val (.ref b1o), .val (.int (2 : Int32))] [])) _
      refine XS.aloadN X30.here hx rfl (hb hby d12_20) rfl rfl ?_
      show Steps p.tables e below (T30.setTop (mkF m 21 #[.val (.ref a1), .val (.int (8 : Int32)), .val (.ref b1o), .val (.int (2 : Int32))] [(.ref a1)])) _
      refine st33 _ ?_
      show Steps p.tables e below (T33.setTop (mkF m 24 #[.val (.ref a1), .val (.int (8 : Int32)), .val (.ref b1o), .val (.int (2 : Int32))] [(.ref a)])) _
      refine XS.iloadN X33.here hx rfl (hb hby d12_24) rfl ?_
      show Steps p.tables e below (T33.setTop (mkF m 25 #[.val (.ref a1), .val (.int (8 : Int32)), .val (.ref b1o), .val (.int (2 : Int32))] [(.int (2 : Int32)), (.ref a)])) _
      refine X33.laload hx (j := (2 : Int32)) (v := (.long (own_K arr 1))) (by rw [e33]; exact Ar34.1) (State.isArrayOf_alike hZ.alike Ar34.2.1) Ar34.2.2 hin35 hat35 (g := (mkF m 25 #[.val (.ref a1), .val (.int (8 : Int32)), .val (.ref b1o), .val (.int (2 : Int32))] [(.int (2 : Int32)), (.ref a)])) rfl rfl (hb hby d12_25) _ ?_
      show Steps p.tables e below (T33.setTop (mkF m 26 #[.val (.ref a1), .val (.int (8 : Int32)), .val (.ref b1o), .val (.int (2 : Int32))] [(.long (own_K arr 1))])) _
      refine X33.ldc2Long hx hown (mvT hZ (hw _ (List.mem_of_getElem? (i := 21) rfl))) (g := (mkF m 26 #[.val (.ref a1), .val (.int (8 : Int32)), .val (.ref b1o), .val (.int (2 : Int32))] [(.long (own_K arr 1))])) rfl (hb hby d12_26) _ ?_
      show Steps p.tables e below (T33.setTop (mkF m 29 #[.val (.ref a1), .val (.int (8 : Int32)), .val (.ref b1o), .val (.int (2 : Int32))] [(.long (-9223372036854775808 : Int64)), (.long (own_K arr 1))])) _
      refine XS.lcmp X33.here hx rfl (hb hby d12_29) rfl ?_
      show Steps p.tables e below (T33.setTop (mkF m 30 #[.val (.ref a1), .val (.int (8 : Int32)), .val (.ref b1o), .val (.int (2 : Int32))] [(.int (lcmpW (own_K arr 1) (-9223372036854775808 : Int64)))])) _
      refine XS.ifYes X33.here hx rfl (pc0 := 30) (pc' := 51) rfl (hb hby d12_30) rfl ((if0 _ _).trans (teq (own_lceq hc30)).1) (by decide) (by decide) ?_
      show Steps p.tables e below (T33.setTop (mkF m 51 #[.val (.ref a1), .val (.int (8 : Int32)), .val (.ref b1o), .val (.int (2 : Int32))] [])) _
      refine XS.iinc X33.here hx rfl (hb hby d12_51) rfl (l' := #[.val (.ref a1), .val (.int (8 : Int32)), .val (.ref b1o), .val (.int (4 : Int32))]) rfl ?_
      show Steps p.tables e below (T33.setTop (mkF m 54 #[.val (.ref a1), .val (.int (8 : Int32)), .val (.ref b1o), .val (.int (4 : Int32))] [])) _
      refine XS.goto X33.here hx rfl (pc0 := 54) (pc' := 11) rfl (hb hby d12_54) (by decide) (by decide) ?_
      exact kt
    · obtain ⟨T36, X36, e36, st36⟩ := getF X33 hx hZ hown (host := "") (Or.inl (hw _ (List.mem_of_getElem? (i := 19) rfl))) Via.refl e33 f29 (g := (mkF m 35 #[.val (.ref a1), .val (.int (8 : Int32)), .val (.ref b1o), .val (.int (2 : Int32))] [(.ref a1), (.ref b1o)])) rfl rfl (hb hby d12_35)
      obtain ⟨cl37, Ar37, qk37, Sz37, Nn37, Hh37, Gg37⟩ := id (f31)
      have hin38 : ¬ ((2 : Int32) < 0 ∨ cl37.slots.size ≤ ((2 : Int32)).toNatClampNeg) := inb_of Sz37 ⟨by decide, by decide⟩
      have hat38 : cl37.slots[((2 : Int32)).toNatClampNeg]? = some (.long (own_K arr 1)) := Has.at Hh37 hin38 (own_ld arr 2)
      obtain ⟨T39, X39, e39, st39⟩ := getF X36 hx hZ hown (host := "") (Or.inl (hw _ (List.mem_of_getElem? (i := 19) rfl))) Via.refl e36 f29 (g := (mkF m 41 #[.val (.ref a1), .val (.int (8 : Int32)), .val (.ref b1o), .val (.int (2 : Int32))] [(.ref a1), (.long (own_K arr 1)), (.ref b1o)])) rfl rfl (hb hby d12_41)
      obtain ⟨cl40, Ar40, qk40, Sz40, Nn40, Hh40, Gg40⟩ := id (f31)
      have hin41 : ¬ ((3 : Int32) < 0 ∨ cl40.slots.size ≤ ((3 : Int32)).toNatClampNeg) := inb_of Sz40 ⟨by decide, by decide⟩
      have hat41 : cl40.slots[((3 : Int32)).toNatClampNeg]? = some (.long (own_W arr 1)) := Has.at Hh40 hin41 (own_ld arr 3)
      have hfr : ∃ j, j < 8 ∧ own_K (ar13) j = own_FREE := own_cnt_free (by rw [rp13.2.2.2]; have := own_cnt_le (own_K arr) 1; omega)
      have f43 := (EI4.keep KT13)
      have f44 := (FS4.keep KT13 (ninS net4 nin0))
      have f45 := (FH4.keep KT13 (ninS net4 nin0))
      obtain ⟨cq42, qq42, qq42'⟩ := f43.cell
      obtain ⟨_, _, ⟨T42, L42, k42, n42⟩, -, X42, ⟨Lc42, hQ42, l42, y42, z42⟩, st42⟩ := X39.privateBack hx (y := (⟨"com/example/pricewright/pricewright/core/LongSumTable", "put", "(JJ)V"⟩ : MethodName)) hown (mvT hZ (hw _ (List.mem_of_getElem? (i := 63) rfl))) (mvT hZ (hw _ (List.mem_of_getElem? (i := 64) rfl))) (own_selpriv (mvT hZ (hw _ (List.mem_of_getElem? (i := 7) rfl))) (Cond.privateMethod_at (mvP hZ (hw _ (List.mem_of_getElem? (i := 65) rfl)) (args := #[]))) (mvT hZ (hw _ (List.mem_of_getElem? (i := 64) rfl))) (by decide)) (Cond.privateMethod_at (mvP hZ (hw _ (List.mem_of_getElem? (i := 65) rfl)) (args := #[]))) (mvT hZ (hw _ (List.mem_of_getElem? (i := 66) rfl))) (by decide) (backOf (W := 0) (rmP l Z a0 hw [] b1o (own_K arr 1) (own_W arr 1) sa4 sk4 (ar13) 8 (61 : Int32) h13 n0 Z13 (Or.inr ⟨rfl, rfl⟩) f43 f44 f45 AV13 hfr hl13 net4 ga4) hZ (hw _ (List.mem_of_getElem? (i := 66) rfl)) (hw _ (List.mem_of_getElem? (i := 8) rfl)) (by decide) (by decide)) (g := (mkF m 48 #[.val (.ref a1), .val (.int (8 : Int32)), .val (.ref b1o), .val (.int (2 : Int32))] [(.long (own_W arr 1)), (.long (own_K arr 1)), (.ref b1o)])) rfl (by rw [hml]; rfl) (Steps.refl _) (a := b1o) (by rw [e39]; exact qq42) qq42' (argsL := [(.long (own_K arr 1)), (.long (own_W arr 1))]) (rest := []) (lenOf pd_3 rfl) rfl (by show 2 * 0 + _ ≤ _; exact Nat.le_of_eq rfl) (hb hby d12_48) (fun _ _ => ⟨rfl, e39, (by decide : 2 + 0 ≤ _), (by decide : 20 + 0 ≤ _)⟩)
      dsimp only [Pt.U, Pt.locs, Pt.cells, Pt.slots] at X42 l42 y42 z42 st42 hQ42
      subst l42 y42 z42
      obtain ⟨rfl, N42q, KC42, u42⟩ := hQ42
      have N42 := Fr.app N13 N42q
      have Z42 : n0 ≤ T42.heap.size := Nat.le_trans Z13 KC42.1
      obtain ⟨i42, hi42, P42, AV42⟩ := u42
      have pp := own_part_put Rp (i := 1) (by decide) hc30 rp13 hi42 P42
      refine ⟨T42, _, ((ar13.set (2 * i42) (own_K arr 1)).set (2 * i42 + 1) (own_W arr 1)), _, X42, rfl, N42, Z42, KC42, by rw [List.length_set, List.length_set]; exact hl13, AV42, by rw [own_Kins hl13 hi42, own_Wins hl13 hi42]; exact pp.2, fun target kt => ?_⟩
      show Steps p.tables e below (T13.setTop (mkF m 11 #[.val (.ref a1), .val (.int (8 : Int32)), .val (.ref b1o), .val (.int (2 : Int32))] [])) _
      refine XS.iloadN X13.here hx rfl (hb hby d12_11) rfl ?_
      show Steps p.tables e below (T13.setTop (mkF m 12 #[.val (.ref a1), .val (.int (8 : Int32)), .val (.ref b1o), .val (.int (2 : Int32))] [(.int (2 : Int32))])) _
      refine XS.aloadN X13.here hx rfl (hb hby d12_12) rfl rfl ?_
      show Steps p.tables e below (T13.setTop (mkF m 13 #[.val (.ref a1), .val (.int (8 : Int32)), .val (.ref b1o), .val (.int (2 : Int32))] [(.ref a1), (.int (2 : Int32))])) _
      refine st30 _ ?_
      show Steps p.tables e below (T30.setTop (mkF m 16 #[.val (.ref a1), .val (.int (8 : Int32)), .val (.ref b1o), .val (.int (2 : Int32))] [(.ref a), (.int (2 : Int32))])) _
      refine X30.arraylength hx (by rw [e30]; exact Ar32.1) (State.isArrayOf_alike hZ.alike Ar32.2.1) (g := (mkF m 16 #[.val (.ref a1), .val (.int (8 : Int32)), .val (.ref b1o), .val (.int (2 : Int32))] [(.ref a), (.int (2 : Int32))])) rfl rfl (hb hby d12_16) _ ?_
      rw [len_of Sz32 Nn32]
      show Steps p.tables e below (T30.setTop (mkF m 17 #[.val (.ref a1), .val (.int (8 : Int32)), .val (.ref b1o), .val (.int (2 : Int32))] [(.int (8 : Int32)), (.int (2 : Int32))])) _
      refine XS.icmpNo X30.here hx rfl (hb hby d12_17) rfl (tlt (by decide)).2.1 ?_
      show Steps p.tables e below (T30.setTop (mkF m 20 #[.val (.ref a1), .val (.int (8 : Int32)), .val (.ref b1o), .val (.int (2 : Int32))] [])) _
      refine XS.aloadN X30.here hx rfl (hb hby d12_20) rfl rfl ?_
      show Steps p.tables e below (T30.setTop (mkF m 21 #[.val (.ref a1), .val (.int (8 : Int32)), .val (.ref b1o), .val (.int (2 : Int32))] [(.ref a1)])) _
      refine st33 _ ?_
      show Steps p.tables e below (T33.setTop (mkF m 24 #[.val (.ref a1), .val (.int (8 : Int32)), .val (.ref b1o), .val (.int (2 : Int32))] [(.ref a)])) _
      refine XS.iloadN X33.here hx rfl (hb hby d12_24) rfl ?_
      show Steps p.tables e below (T33.setTop (mkF m 25 #[.val (.ref a1), .val (.int (8 : Int32)), .val (.ref b1o), .val (.int (2 : Int32))] [(.int (2 : Int32)), (.ref a)])) _
      refine X33.laload hx (j := (2 : Int32)) (v := (.long (own_K arr 1))) (by rw [e33]; exact Ar34.1) (State.isArrayOf_alike hZ.alike Ar34.2.1) Ar34.2.2 hin35 hat35 (g := (mkF m 25 #[.val (.ref a1), .val (.int (8 : Int32)), .val (.ref b1o), .val (.int (2 : Int32))] [(.int (2 : Int32)), (.ref a)])) rfl rfl (hb hby d12_25) _ ?_
      show Steps p.tables e below (T33.setTop (mkF m 26 #[.val (.ref a1), .val (.int (8 : Int32)), .val (.ref b1o), .val (.int (2 : Int32))] [(.long (own_K arr 1))])) _
      refine X33.ldc2Long hx hown (mvT hZ (hw _ (List.mem_of_getElem? (i := 21) rfl))) (g := (mkF m 26 #[.val (.ref a1), .val (.int (8 : Int32)), .val (.ref b1o), .val (.int (2 : Int32))] [(.long (own_K arr 1))])) rfl (hb hby d12_26) _ ?_
      show Steps p.tables e below (T33.setTop (mkF m 29 #[.val (.ref a1), .val (.int (8 : Int32)), .val (.ref b1o), .val (.int (2 : Int32))] [(.long (-9223372036854775808 : Int64)), (.long (own_K arr 1))])) _
      refine XS.lcmp X33.here hx rfl (hb hby d12_29) rfl ?_
      show Steps p.tables e below (T33.setTop (mkF m 30 #[.val (.ref a1), .val (.int (8 : Int32)), .val (.ref b1o), .val (.int (2 : Int32))] [(.int (lcmpW (own_K arr 1) (-9223372036854775808 : Int64)))])) _
      refine XS.ifNo X33.here hx rfl (hb hby d12_30) rfl ((if0 _ _).trans (feq (own_lcne hc30)).1) ?_
      show Steps p.tables e below (T33.setTop (mkF m 33 #[.val (.ref a1), .val (.int (8 : Int32)), .val (.ref b1o), .val (.int (2 : Int32))] [])) _
      refine XS.aloadN X33.here hx rfl (hb hby d12_33) rfl rfl ?_
      show Steps p.tables e below (T33.setTop (mkF m 34 #[.val (.ref a1), .val (.int (8 : Int32)), .val (.ref b1o), .val (.int (2 : Int32))] [(.ref b1o)])) _
      refine XS.aloadN X33.here hx rfl (hb hby d12_34) rfl rfl ?_
      show Steps p.tables e below (T33.setTop (mkF m 35 #[.val (.ref a1), .val (.int (8 : Int32)), .val (.ref b1o), .val (.int (2 : Int32))] [(.ref a1), (.ref b1o)])) _
      refine st36 _ ?_
      show Steps p.tables e below (T36.setTop (mkF m 38 #[.val (.ref a1), .val (.int (8 : Int32)), .val (.ref b1o), .val (.int (2 : Int32))] [(.ref a), (.ref b1o)])) _
      refine XS.iloadN X36.here hx rfl (hb hby d12_38) rfl ?_
      show Steps p.tables e below (T36.setTop (mkF m 39 #[.val (.ref a1), .val (.int (8 : Int32)), .val (.ref b1o), .val (.int (2 : Int32))] [(.int (2 : Int32)), (.ref a), (.ref b1o)])) _
      refine X36.laload hx (j := (2 : Int32)) (v := (.long (own_K arr 1))) (by rw [e36]; exact Ar37.1) (State.isArrayOf_alike hZ.alike Ar37.2.1) Ar37.2.2 hin38 hat38 (g := (mkF m 39 #[.val (.ref a1), .val (.int (8 : Int32)), .val (.ref b1o), .val (.int (2 : Int32))] [(.int (2 : Int32)), (.ref a), (.ref b1o)])) rfl rfl (hb hby d12_39) _ ?_
      show Steps p.tables e below (T36.setTop (mkF m 40 #[.val (.ref a1), .val (.int (8 : Int32)), .val (.ref b1o), .val (.int (2 : Int32))] [(.long (own_K arr 1)), (.ref b1o)])) _
      refine XS.aloadN X36.here hx rfl (hb hby d12_40) rfl rfl ?_
      show Steps p.tables e below (T36.setTop (mkF m 41 #[.val (.ref a1), .val (.int (8 : Int32)), .val (.ref b1o), .val (.int (2 : Int32))] [(.ref a1), (.long (own_K arr 1)), (.ref b1o)])) _
      refine st39 _ ?_
      show Steps p.tables e below (T39.setTop (mkF m 44 #[.val (.ref a1), .val (.int (8 : Int32)), .val (.ref b1o), .val (.int (2 : Int32))] [(.ref a), (.long (own_K arr 1)), (.ref b1o)])) _
      refine XS.iloadN X39.here hx rfl (hb hby d12_44) rfl ?_
      show Steps p.tables e below (T39.setTop (mkF m 45 #[.val (.ref a1), .val (.int (8 : Int32)), .val (.ref b1o), .val (.int (2 : Int32))] [(.int (2 : Int32)), (.ref a), (.long (own_K arr 1)), (.ref b1o)])) _
      refine XS.iconst X39.here hx rfl (hb hby d12_45) ?_
      show Steps p.tables e below (T39.setTop (mkF m 46 #[.val (.ref a1), .val (.int (8 : Int32)), .val (.ref b1o), .val (.int (2 : Int32))] [(.int (1 : Int32)), (.int (2 : Int32)), (.ref a), (.long (own_K arr 1)), (.ref b1o)])) _
      refine XS.iadd X39.here hx rfl (hb hby d12_46) rfl ?_
      show Steps p.tables e below (T39.setTop (mkF m 47 #[.val (.ref a1), .val (.int (8 : Int32)), .val (.ref b1o), .val (.int (2 : Int32))] [(.int (3 : Int32)), (.ref a), (.long (own_K arr 1)), (.ref b1o)])) _
      refine X39.laload hx (j := (3 : Int32)) (v := (.long (own_W arr 1))) (by rw [e39]; exact Ar40.1) (State.isArrayOf_alike hZ.alike Ar40.2.1) Ar40.2.2 hin41 hat41 (g := (mkF m 47 #[.val (.ref a1), .val (.int (8 : Int32)), .val (.ref b1o), .val (.int (2 : Int32))] [(.int (3 : Int32)), (.ref a), (.long (own_K arr 1)), (.ref b1o)])) rfl rfl (hb hby d12_47) _ ?_
      show Steps p.tables e below (T39.setTop (mkF m 48 #[.val (.ref a1), .val (.int (8 : Int32)), .val (.ref b1o), .val (.int (2 : Int32))] [(.long (own_W arr 1)), (.long (own_K arr 1)), (.ref b1o)])) _
      refine st42.trans ?_
      show Steps p.tables e below (T42.setTop (mkF m 51 #[.val (.ref a1), .val (.int (8 : Int32)), .val (.ref b1o), .val (.int (2 : Int32))] [])) _
      refine XS.iinc X42.here hx rfl (hb hby d12_51) rfl (l' := #[.val (.ref a1), .val (.int (8 : Int32)), .val (.ref b1o), .val (.int (4 : Int32))]) rfl ?_
      show Steps p.tables e below (T42.setTop (mkF m 54 #[.val (.ref a1), .val (.int (8 : Int32)), .val (.ref b1o), .val (.int (4 : Int32))] [])) _
      refine XS.goto X42.here hx rfl (pc0 := 54) (pc' := 11) rfl (hb hby d12_54) (by decide) (by decide) ?_
      exact kt
  obtain ⟨T28, h28, ar28, L28, X28, e28, N28, Z28, KT28, hl28, AV28, rp28, st28⟩ := tn28
  have tn46 : ∃ (T' : State) (h' : Heap) (arr2 : List Int64) (L' : List Loc), Stand p l e ({ frames := 3, cells := 2, slots := 20, locals := 44 } : Room) s m #[(.ref a1), (.int (8 : Int32))] below meth c T' L' 2 20 ∧ T'.heap = h' ∧ Fr n0 L' ∧ n0 ≤ h'.size ∧ Keep h28 h' [sa4] ∧ arr2.length = 2 * 8 ∧ Arv Z h' sa4 sk4 .long (16 : Int32) (arr2.map Value.long) (.long (0 : Int64)) ∧ own_Rep (own_K arr2) (own_W arr2) 8 (own_hs 8) (own_Part (own_K arr) 3) (fun x => @ite _ (own_Part (own_K arr) 3 x) (Classical.propDecidable _) (mm x) 0) (own_cnt (own_K arr) 3) ∧ ∀ target, Steps p.tables e below (T'.setTop (mkF m 11 #[.val (.ref a1), .val (.int (8 : Int32)), .val (.ref b1o), .val (.int (6 : Int32))] [])) target → Steps p.tables e below (T28.setTop (mkF m 11 #[.val (.ref a1), .val (.int (8 : Int32)), .val (.ref b1o), .val (.int (4 : Int32))] [])) target := by
    have f47 := (((f6.keep KC4 (ninS ne2 nin0)).keep KT13 (ninS ne11 nin0)).keep KT28 (ninS ne11 nin0))
    obtain ⟨T48, X48, e48, st48⟩ := getF X28 hx hZ hown (host := "") (Or.inl (hw _ (List.mem_of_getElem? (i := 19) rfl))) Via.refl e28 f47 (g := (mkF m 13 #[.val (.ref a1), .val (.int (8 : Int32)), .val (.ref b1o), .val (.int (4 : Int32))] [(.ref a1), (.int (4 : Int32))])) rfl rfl (hb hby d12_13)
    have f49 := (((f10.keep KC4 (ninS ne3 nin0)).keep KT13 (ninS ne12 nin0)).keep KT28 (ninS ne12 nin0))
    obtain ⟨cl50, Ar50, qk50, Sz50, Nn50, Hh50, Gg50⟩ := id (f49)
    obtain ⟨T51, X51, e51, st51⟩ := getF X48 hx hZ hown (host := "") (Or.inl (hw _ (List.mem_of_getElem? (i := 19) rfl))) Via.refl e48 f47 (g := (mkF m 21 #[.val (.ref a1), .val (.int (8 : Int32)), .val (.ref b1o), .val (.int (4 : Int32))] [(.ref a1)])) rfl rfl (hb hby d12_21)
    obtain ⟨cl52, Ar52, qk52, Sz52, Nn52, Hh52, Gg52⟩ := id (f49)
    have hin53 : ¬ ((4 : Int32) < 0 ∨ cl52.slots.size ≤ ((4 : Int32)).toNatClampNeg) := inb_of Sz52 ⟨by decide, by decide⟩
    have hat53 : cl52.slots[((4 : Int32)).toNatClampNeg]? = some (.long (own_K arr 2)) := Has.at Hh52 hin53 (own_ld arr 4)
    by_cases hc30 : (own_K arr 2) = (-9223372036854775808 : Int64)
    · refine ⟨T51, _, ar28, _, X51, e51, N28, Z28, Keep.refl _ _, hl28, AV28, own_part_skip rp28 hc30, fun target kt => ?_⟩
      show Steps p.tables e below (T28.setTop (mkF m 11 #[.val (.ref a1), .val (.int (8 : Int32)), .val (.ref b1o), .val (.int (4 : Int32))] [])) _
      refine XS.iloadN X28.here hx rfl (hb hby d12_11) rfl ?_
      show Steps p.tables e below (T28.setTop (mkF m 12 #[.val (.ref a1), .val (.int (8 : Int32)), .val (.ref b1o), .val (.int (4 : Int32))] [(.int (4 : Int32))])) _
      refine XS.aloadN X28.here hx rfl (hb hby d12_12) rfl rfl ?_
      show Steps p.tables e below (T28.setTop (mkF m 13 #[.val (.ref a1), .val (.int (8 : Int32)), .val (.ref b1o), .val (.int (4 : Int32))] [(.ref a1), (.int (4 : Int32))])) _
      refine st48 _ ?_
      show Steps p.tables e below (T48.setTop (mkF m 16 #[.val (.ref a1), .val (.int (8 : Int32)), .val (.ref b1o), .val (.int (4 : Int32))] [(.ref a), (.int (4 : Int32))])) _
      refine X48.arraylength hx (by rw [e48]; exact Ar50.1) (State.isArrayOf_alike hZ.alike Ar50.2.1) (g := (mkF m 16 #[.val (.ref a1), .val (.int (8 : Int32)), .val (.ref b1o), .val (.int (4 : Int32))] [(.ref a), (.int (4 : Int32))])) rfl rfl (hb hby d12_16) _ ?_
      rw [len_of Sz50 Nn50]
      show Steps p.tables e below (T48.setTop (mkF m 17 #[.val (.ref a1), .val (.int (8 : Int32)), .val (.ref b1o), .val (.int (4 : Int32))] [(.int (8 : Int32)), (.int (4 : Int32))])) _
      refine XS.icmpNo X48.here hx rfl (hb hby d12_17) rfl (tlt (by decide)).2.1 ?_
      show Steps p.tables e below (T48.setTop (mkF m 20 #[.val (.ref a1), .val (.int (8 : Int32)), .val (.ref b1o), .val (.int (4 : Int32))] [])) _
      refine XS.aloadN X48.here hx rfl (hb hby d12_20) rfl rfl ?_
      show Steps p.tables e below (T48.setTop (mkF m 21 #[.val (.ref a1), .val (.int (8 : Int32)), .val (.ref b1o), .val (.int (4 : Int32))] [(.ref a1)])) _
      refine st51 _ ?_
      show Steps p.tables e below (T51.setTop (mkF m 24 #[.val (.ref a1), .val (.int (8 : Int32)), .val (.ref b1o), .val (.int (4 : Int32))] [(.ref a)])) _
      refine XS.iloadN X51.here hx rfl (hb hby d12_24) rfl ?_
      show Steps p.tables e below (T51.setTop (mkF m 25 #[.val (.ref a1), .val (.int (8 : Int32)), .val (.ref b1o), .val (.int (4 : Int32))] [(.int (4 : Int32)), (.ref a)])) _
      refine X51.laload hx (j := (4 : Int32)) (v := (.long (own_K arr 2))) (by rw [e51]; exact Ar52.1) (State.isArrayOf_alike hZ.alike Ar52.2.1) Ar52.2.2 hin53 hat53 (g := (mkF m 25 #[.val (.ref a1), .val (.int (8 : Int32)), .val (.ref b1o), .val (.int (4 : Int32))] [(.int (4 : Int32)), (.ref a)])) rfl rfl (hb hby d12_25) _ ?_
      show Steps p.tables e below (T51.setTop (mkF m 26 #[.val (.ref a1), .val (.int (8 : Int32)), .val (.ref b1o), .val (.int (4 : Int32))] [(.long (own_K arr 2))])) _
      refine X51.ldc2Long hx hown (mvT hZ (hw _ (List.mem_of_getElem? (i := 21) rfl))) (g := (mkF m 26 #[.val (.ref a1), .val (.int (8 : Int32)), .val (.ref b1o), .val (.int (4 : Int32))] [(.long (own_K arr 2))])) rfl (hb hby d12_26) _ ?_
      show Steps p.tables e below (T51.setTop (mkF m 29 #[.val (.ref a1), .val (.int (8 : Int32)), .val (.ref b1o), .val (.int (4 : Int32))] [(.long (-9223372036854775808 : Int64)), (.long (own_K arr 2))])) _
      refine XS.lcmp X51.here hx rfl (hb hby d12_29) rfl ?_
      show Steps p.tables e below (T51.setTop (mkF m 30 #[.val (.ref a1), .val (.int (8 : Int32)), .val (.ref b1o), .val (.int (4 : Int32))] [(.int (lcmpW (own_K arr 2) (-9223372036854775808 : Int64)))])) _
      refine XS.ifYes X51.here hx rfl (pc0 := 30) (pc' := 51) rfl (hb hby d12_30) rfl ((if0 _ _).trans (teq (own_lceq hc30)).1) (by decide) (by decide) ?_
      show Steps p.tables e below (T51.setTop (mkF m 51 #[.val (.ref a1), .val (.int (8 : Int32)), .val (.ref b1o), .val (.int (4 : Int32))] [])) _
      refine XS.iinc X51.here hx rfl (hb hby d12_51) rfl (l' := #[.val (.ref a1), .val (.int (8 : Int32)), .val (.ref b1o), .val (.int (6 : Int32))]) rfl ?_
      show Steps p.tables e below (T51.setTop (mkF m 54 #[.val (.ref a1), .val (.int (8 : Int32)), .val (.ref b1o), .val (.int (6 : Int32))] [])) _
      refine XS.goto X51.here hx rfl (pc0 := 54) (pc' := 11) rfl (hb hby d12_54) (by decide) (by decide) ?_
      exact kt
    · obtain ⟨T54, X54, e54, st54⟩ := getF X51 hx hZ hown (host := "") (Or.inl (hw _ (List.mem_of_getElem? (i := 19) rfl))) Via.refl e51 f47 (g := (mkF m 35 #[.val (.ref a1), .val (.int (8 : Int32)), .val (.ref b1o), .val (.int (4 : Int32))] [(.ref a1), (.ref b1o)])) rfl rfl (hb hby d12_35)
      obtain ⟨cl55, Ar55, qk55, Sz55, Nn55, Hh55, Gg55⟩ := id (f49)
      have hin56 : ¬ ((4 : Int32) < 0 ∨ cl55.slots.size ≤ ((4 : Int32)).toNatClampNeg) := inb_of Sz55 ⟨by decide, by decide⟩
      have hat56 : cl55.slots[((4 : Int32)).toNatClampNeg]? = some (.long (own_K arr 2)) := Has.at Hh55 hin56 (own_ld arr 4)
      obtain ⟨T57, X57, e57, st57⟩ := getF X54 hx hZ hown (host := "") (Or.inl (hw _ (List.mem_of_getElem? (i := 19) rfl))) Via.refl e54 f47 (g := (mkF m 41 #[.val (.ref a1), .val (.int (8 : Int32)), .val (.ref b1o), .val (.int (4 : Int32))] [(.ref a1), (.long (own_K arr 2)), (.ref b1o)])) rfl rfl (hb hby d12_41)
      obtain ⟨cl58, Ar58, qk58, Sz58, Nn58, Hh58, Gg58⟩ := id (f49)
      have hin59 : ¬ ((5 : Int32) < 0 ∨ cl58.slots.size ≤ ((5 : Int32)).toNatClampNeg) := inb_of Sz58 ⟨by decide, by decide⟩
      have hat59 : cl58.slots[((5 : Int32)).toNatClampNeg]? = some (.long (own_W arr 2)) := Has.at Hh58 hin59 (own_ld arr 5)
      have hfr : ∃ j, j < 8 ∧ own_K (ar28) j = own_FREE := own_cnt_free (by rw [rp28.2.2.2]; have := own_cnt_le (own_K arr) 2; omega)
      have f61 := ((EI4.keep KT13).keep KT28)
      have f62 := ((FS4.keep KT13 (ninS net4 nin0)).keep KT28 (ninS net4 nin0))
      have f63 := ((FH4.keep KT13 (ninS net4 nin0)).keep KT28 (ninS net4 nin0))
      obtain ⟨cq60, qq60, qq60'⟩ := f61.cell
      obtain ⟨_, _, ⟨T60, L60, k60, n60⟩, -, X60, ⟨Lc60, hQ60, l60, y60, z60⟩, st60⟩ := X57.privateBack hx (y := (⟨"com/example/pricewright/pricewright/core/LongSumTable", "put", "(JJ)V"⟩ : MethodName)) hown (mvT hZ (hw _ (List.mem_of_getElem? (i := 63) rfl))) (mvT hZ (hw _ (List.mem_of_getElem? (i := 64) rfl))) (own_selpriv (mvT hZ (hw _ (List.mem_of_getElem? (i := 7) rfl))) (Cond.privateMethod_at (mvP hZ (hw _ (List.mem_of_getElem? (i := 65) rfl)) (args := #[]))) (mvT hZ (hw _ (List.mem_of_getElem? (i := 64) rfl))) (by decide)) (Cond.privateMethod_at (mvP hZ (hw _ (List.mem_of_getElem? (i := 65) rfl)) (args := #[]))) (mvT hZ (hw _ (List.mem_of_getElem? (i := 66) rfl))) (by decide) (backOf (W := 0) (rmP l Z a0 hw [] b1o (own_K arr 2) (own_W arr 2) sa4 sk4 (ar28) 8 (61 : Int32) h28 n0 Z28 (Or.inr ⟨rfl, rfl⟩) f61 f62 f63 AV28 hfr hl28 net4 ga4) hZ (hw _ (List.mem_of_getElem? (i := 66) rfl)) (hw _ (List.mem_of_getElem? (i := 8) rfl)) (by decide) (by decide)) (g := (mkF m 48 #[.val (.ref a1), .val (.int (8 : Int32)), .val (.ref b1o), .val (.int (4 : Int32))] [(.long (own_W arr 2)), (.long (own_K arr 2)), (.ref b1o)])) rfl (by rw [hml]; rfl) (Steps.refl _) (a := b1o) (by rw [e57]; exact qq60) qq60' (argsL := [(.long (own_K arr 2)), (.long (own_W arr 2))]) (rest := []) (lenOf pd_3 rfl) rfl (by show 2 * 0 + _ ≤ _; exact Nat.le_of_eq rfl) (hb hby d12_48) (fun _ _ => ⟨rfl, e57, (by decide : 2 + 0 ≤ _), (by decide : 20 + 0 ≤ _)⟩)
      dsimp only [Pt.U, Pt.locs, Pt.cells, Pt.slots] at X60 l60 y60 z60 st60 hQ60
      subst l60 y60 z60
      obtain ⟨rfl, N60q, KC60, u60⟩ := hQ60
      have N60 := Fr.app N28 N60q
      have Z60 : n0 ≤ T60.heap.size := Nat.le_trans Z28 KC60.1
      obtain ⟨i60, hi60, P60, AV60⟩ := u60
      have pp := own_part_put Rp (i := 2) (by decide) hc30 rp28 hi60 P60
      refine ⟨T60, _, ((ar28.set (2 * i60) (own_K arr 2)).set (2 * i60 + 1) (own_W arr 2)), _, X60, rfl, N60, Z60, KC60, by rw [List.length_set, List.length_set]; exact hl28, AV60, by rw [own_Kins hl28 hi60, own_Wins hl28 hi60]; exact pp.2, fun target kt => ?_⟩
      show Steps p.tables e below (T28.setTop (mkF m 11 #[.val (.ref a1), .val (.int (8 : Int32)), .val (.ref b1o), .val (.int (4 : Int32))] [])) _
      refine XS.iloadN X28.here hx rfl (hb hby d12_11) rfl ?_
      show Steps p.tables e below (T28.setTop (mkF m 12 #[.val (.ref a1), .val (.int (8 : Int32)), .val (.ref b1o), .val (.int (4 : Int32))] [(.int (4 : Int32))])) _
      refine XS.aloadN X28.here hx rfl (hb hby d12_12) rfl rfl ?_
      show Steps p.tables e below (T28.setTop (mkF m 13 #[.val (.ref a1), .val (.int (8 : Int32)), .val (.ref b1o), .val (.int (4 : Int32))] [(.ref a1), (.int (4 : Int32))])) _
      refine st48 _ ?_
      show Steps p.tables e below (T48.setTop (mkF m 16 #[.val (.ref a1), .val (.int (8 : Int32)), .val (.ref b1o), .val (.int (4 : Int32))] [(.ref a), (.int (4 : Int32))])) _
      refine X48.arraylength hx (by rw [e48]; exact Ar50.1) (State.isArrayOf_alike hZ.alike Ar50.2.1) (g := (mkF m 16 #[.val (.ref a1), .val (.int (8 : Int32)), .val (.ref b1o), .val (.int (4 : Int32))] [(.ref a), (.int (4 : Int32))])) rfl rfl (hb hby d12_16) _ ?_
      rw [len_of Sz50 Nn50]
      show Steps p.tables e below (T48.setTop (mkF m 17 #[.val (.ref a1), .val (.int (8 : Int32)), .val (.ref b1o), .val (.int (4 : Int32))] [(.int (8 : Int32)), (.int (4 : Int32))])) _
      refine XS.icmpNo X48.here hx rfl (hb hby d12_17) rfl (tlt (by decide)).2.1 ?_
      show Steps p.tables e below (T48.setTop (mkF m 20 #[.val (.ref a1), .val (.int (8 : Int32)), .val (.ref b1o), .val (.int (4 : Int32))] [])) _
      refine XS.aloadN X48.here hx rfl (hb hby d12_20) rfl rfl ?_
      show Steps p.tables e below (T48.setTop (mkF m 21 #[.val (.ref a1), .val (.int (8 : Int32)), .val (.ref b1o), .val (.int (4 : Int32))] [(.ref a1)])) _
      refine st51 _ ?_
      show Steps p.tables e below (T51.setTop (mkF m 24 #[.val (.ref a1), .val (.int (8 : Int32)), .val (.ref b1o), .val (.int (4 : Int32))] [(.ref a)])) _
      refine XS.iloadN X51.here hx rfl (hb hby d12_24) rfl ?_
      show Steps p.tables e below (T51.setTop (mkF m 25 #[.val (.ref a1), .val (.int (8 : Int32)), .val (.ref b1o), .val (.int (4 : Int32))] [(.int (4 : Int32)), (.ref a)])) _
      refine X51.laload hx (j := (4 : Int32)) (v := (.long (own_K arr 2))) (by rw [e51]; exact Ar52.1) (State.isArrayOf_alike hZ.alike Ar52.2.1) Ar52.2.2 hin53 hat53 (g := (mkF m 25 #[.val (.ref a1), .val (.int (8 : Int32)), .val (.ref b1o), .val (.int (4 : Int32))] [(.int (4 : Int32)), (.ref a)])) rfl rfl (hb hby d12_25) _ ?_
      show Steps p.tables e below (T51.setTop (mkF m 26 #[.val (.ref a1), .val (.int (8 : Int32)), .val (.ref b1o), .val (.int (4 : Int32))] [(.long (own_K arr 2))])) _
      refine X51.ldc2Long hx hown (mvT hZ (hw _ (List.mem_of_getElem? (i := 21) rfl))) (g := (mkF m 26 #[.val (.ref a1), .val (.int (8 : Int32)), .val (.ref b1o), .val (.int (4 : Int32))] [(.long (own_K arr 2))])) rfl (hb hby d12_26) _ ?_
      show Steps p.tables e below (T51.setTop (mkF m 29 #[.val (.ref a1), .val (.int (8 : Int32)), .val (.ref b1o), .val (.int (4 : Int32))] [(.long (-9223372036854775808 : Int64)), (.long (own_K arr 2))])) _
      refine XS.lcmp X51.here hx rfl (hb hby d12_29) rfl ?_
      show Steps p.tables e below (T51.setTop (mkF m 30 #[.val (.ref a1), .val (.int (8 : Int32)), .val (.ref b1o), .val (.int (4 : Int32))] [(.int (lcmpW (own_K arr 2) (-9223372036854775808 : Int64)))])) _
      refine XS.ifNo X51.here hx rfl (hb hby d12_30) rfl ((if0 _ _).trans (feq (own_lcne hc30)).1) ?_
      show Steps p.tables e below (T51.setTop (mkF m 33 #[.val (.ref a1), .val (.int (8 : Int32)), .val (.ref b1o), .val (.int (4 : Int32))] [])) _
      refine XS.aloadN X51.here hx rfl (hb hby d12_33) rfl rfl ?_
      show Steps p.tables e below (T51.setTop (mkF m 34 #[.val (.ref a1), .val (.int (8 : Int32)), .val (.ref b1o), .val (.int (4 : Int32))] [(.ref b1o)])) _
      refine XS.aloadN X51.here hx rfl (hb hby d12_34) rfl rfl ?_
      show Steps p.tables e below (T51.setTop (mkF m 35 #[.val (.ref a1), .val (.int (8 : Int32)), .val (.ref b1o), .val (.int (4 : Int32))] [(.ref a1), (.ref b1o)])) _
      refine st54 _ ?_
      show Steps p.tables e below (T54.setTop (mkF m 38 #[.val (.ref a1), .val (.int (8 : Int32)), .val (.ref b1o), .val (.int (4 : Int32))] [(.ref a), (.ref b1o)])) _
      refine XS.iloadN X54.here hx rfl (hb hby d12_38) rfl ?_
      show Steps p.tables e below (T54.setTop (mkF m 39 #[.val (.ref a1), .val (.int (8 : Int32)), .val (.ref b1o), .val (.int (4 : Int32))] [(.int (4 : Int32)), (.ref a), (.ref b1o)])) _
      refine X54.laload hx (j := (4 : Int32)) (v := (.long (own_K arr 2))) (by rw [e54]; exact Ar55.1) (State.isArrayOf_alike hZ.alike Ar55.2.1) Ar55.2.2 hin56 hat56 (g := (mkF m 39 #[.val (.ref a1), .val (.int (8 : Int32)), .val (.ref b1o), .val (.int (4 : Int32))] [(.int (4 : Int32)), (.ref a), (.ref b1o)])) rfl rfl (hb hby d12_39) _ ?_
      show Steps p.tables e below (T54.setTop (mkF m 40 #[.val (.ref a1), .val (.int (8 : Int32)), .val (.ref b1o), .val (.int (4 : Int32))] [(.long (own_K arr 2)), (.ref b1o)])) _
      refine XS.aloadN X54.here hx rfl (hb hby d12_40) rfl rfl ?_
      show Steps p.tables e below (T54.setTop (mkF m 41 #[.val (.ref a1), .val (.int (8 : Int32)), .val (.ref b1o), .val (.int (4 : Int32))] [(.ref a1), (.long (own_K arr 2)), (.ref b1o)])) _
      refine st57 _ ?_
      show Steps p.tables e below (T57.setTop (mkF m 44 #[.val (.ref a1), .val (.int (8 : Int32)), .val (.ref b1o), .val (.int (4 : Int32))] [(.ref a), (.long (own_K arr 2)), (.ref b1o)])) _
      refine XS.iloadN X57.here hx rfl (hb hby d12_44) rfl ?_
      show Steps p.tables e below (T57.setTop (mkF m 45 #[.val (.ref a1), .val (.int (8 : Int32)), .val (.ref b1o), .val (.int (4 : Int32))] [(.int (4 : Int32)), (.ref a), (.long (own_K arr 2)), (.ref b1o)])) _
      refine XS.iconst X57.here hx rfl (hb hby d12_45) ?_
      show Steps p.tables e below (T57.setTop (mkF m 46 #[.val (.ref a1), .val (.int (8 : Int32)), .val (.ref b1o), .val (.int (4 : Int32))] [(.int (1 : Int32)), (.int (4 : Int32)), (.ref a), (.long (own_K arr 2)), (.ref b1o)])) _
      refine XS.iadd X57.here hx rfl (hb hby d12_46) rfl ?_
      show Steps p.tables e below (T57.setTop (mkF m 47 #[.val (.ref a1), .val (.int (8 : Int32)), .val (.ref b1o), .val (.int (4 : Int32))] [(.int (5 : Int32)), (.ref a), (.long (own_K arr 2)), (.ref b1o)])) _
      refine X57.laload hx (j := (5 : Int32)) (v := (.long (own_W arr 2))) (by rw [e57]; exact Ar58.1) (State.isArrayOf_alike hZ.alike Ar58.2.1) Ar58.2.2 hin59 hat59 (g := (mkF m 47 #[.val (.ref a1), .val (.int (8 : Int32)), .val (.ref b1o), .val (.int (4 : Int32))] [(.int (5 : Int32)), (.ref a), (.long (own_K arr 2)), (.ref b1o)])) rfl rfl (hb hby d12_47) _ ?_
      show Steps p.tables e below (T57.setTop (mkF m 48 #[.val (.ref a1), .val (.int (8 : Int32)), .val (.ref b1o), .val (.int (4 : Int32))] [(.long (own_W arr 2)), (.long (own_K arr 2)), (.ref b1o)])) _
      refine st60.trans ?_
      show Steps p.tables e below (T60.setTop (mkF m 51 #[.val (.ref a1), .val (.int (8 : Int32)), .val (.ref b1o), .val (.int (4 : Int32))] [])) _
      refine XS.iinc X60.here hx rfl (hb hby d12_51) rfl (l' := #[.val (.ref a1), .val (.int (8 : Int32)), .val (.ref b1o), .val (.int (6 : Int32))]) rfl ?_
      show Steps p.tables e below (T60.setTop (mkF m 54 #[.val (.ref a1), .val (.int (8 : Int32)), .val (.ref b1o), .val (.int (6 : Int32))] [])) _
      refine XS.goto X60.here hx rfl (pc0 := 54) (pc' := 11) rfl (hb hby d12_54) (by decide) (by decide) ?_
      exact kt
  obtain ⟨T46, h46, ar46, L46, X46, e46, N46, Z46, KT46, hl46, AV46, rp46, st46⟩ := tn46
  have tn64 : ∃ (T' : State) (h' : Heap) (arr2 : List Int64) (L' : List Loc), Stand p l e ({ frames := 3, cells := 2, slots := 20, locals := 44 } : Room) s m #[(.ref a1), (.int (8 : Int32))] below meth c T' L' 2 20 ∧ T'.heap = h' ∧ Fr n0 L' ∧ n0 ≤ h'.size ∧ Keep h46 h' [sa4] ∧ arr2.length = 2 * 8 ∧ Arv Z h' sa4 sk4 .long (16 : Int32) (arr2.map Value.long) (.long (0 : Int64)) ∧ own_Rep (own_K arr2) (own_W arr2) 8 (own_hs 8) (own_Part (own_K arr) 4) (fun x => @ite _ (own_Part (own_K arr) 4 x) (Classical.propDecidable _) (mm x) 0) (own_cnt (own_K arr) 4) ∧ ∀ target, Steps p.tables e below (T'.setTop (mkF m 11 #[.val (.ref a1), .val (.int (8 : Int32)), .val (.ref b1o), .val (.int (8 : Int32))] [])) target → Steps p.tables e below (T46.setTop (mkF m 11 #[.val (.ref a1), .val (.int (8 : Int32)), .val (.ref b1o), .val (.int (6 : Int32))] [])) target := by
    have f65 := ((((f6.keep KC4 (ninS ne2 nin0)).keep KT13 (ninS ne11 nin0)).keep KT28 (ninS ne11 nin0)).keep KT46 (ninS ne11 nin0))
    obtain ⟨T66, X66, e66, st66⟩ := getF X46 hx hZ hown (host := "") (Or.inl (hw _ (List.mem_of_getElem? (i := 19) rfl))) Via.refl e46 f65 (g := (mkF m 13 #[.val (.ref a1), .val (.int (8 : Int32)), .val (.ref b1o), .val (.int (6 : Int32))] [(.ref a1), (.int (6 : Int32))])) rfl rfl (hb hby d12_13)
    have f67 := ((((f10.keep KC4 (ninS ne3 nin0)).keep KT13 (ninS ne12 nin0)).keep KT28 (ninS ne12 nin0)).keep KT46 (ninS ne12 nin0))
    obtain ⟨cl68, Ar68, qk68, Sz68, Nn68, Hh68, Gg68⟩ := id (f67)
    obtain ⟨T69, X69, e69, st69⟩ := getF X66 hx hZ hown (host := "") (Or.inl (hw _ (List.mem_of_getElem? (i := 19) rfl))) Via.refl e66 f65 (g := (mkF m 21 #[.val (.ref a1), .val (.int (8 : Int32)), .val (.ref b1o), .val (.int (6 : Int32))] [(.ref a1)])) rfl rfl (hb hby d12_21)
    obtain ⟨cl70, Ar70, qk70, Sz70, Nn70, Hh70, Gg70⟩ := id (f67)
    have hin71 : ¬ ((6 : Int32) < 0 ∨ cl70.slots.size ≤ ((6 : Int32)).toNatClampNeg) := inb_of Sz70 ⟨by decide, by decide⟩
    have hat71 : cl70.slots[((6 : Int32)).toNatClampNeg]? = some (.long (own_K arr 3)) := Has.at Hh70 hin71 (own_ld arr 6)
    by_cases hc30 : (own_K arr 3) = (-9223372036854775808 : Int64)
    · refine ⟨T69, _, ar46, _, X69, e69, N46, Z46, Keep.refl _ _, hl46, AV46, own_part_skip rp46 hc30, fun target kt => ?_⟩
      show Steps p.tables e below (T46.setTop (mkF m 11 #[.val (.ref a1), .val (.int (8 : Int32)), .val (.ref b1o), .val (.int (6 : Int32))] [])) _
      refine XS.iloadN X46.here hx rfl (hb hby d12_11) rfl ?_
      show Steps p.tables e below (T46.setTop (mkF m 12 #[.val (.ref a1), .val (.int (8 : Int32)), .val (.ref b1o), .val (.int (6 : Int32))] [(.int (6 : Int32))])) _
      refine XS.aloadN X46.here hx rfl (hb hby d12_12) rfl rfl ?_
      show Steps p.tables e below (T46.setTop (mkF m 13 #[.val (.ref a1), .val (.int (8 : Int32)), .val (.ref b1o), .val (.int (6 : Int32))] [(.ref a1), (.int (6 : Int32))])) _
      refine st66 _ ?_
      show Steps p.tables e below (T66.setTop (mkF m 16 #[.val (.ref a1), .val (.int (8 : Int32)), .val (.ref b1o), .val (.int (6 : Int32))] [(.ref a), (.int (6 : Int32))])) _
      refine X66.arraylength hx (by rw [e66]; exact Ar68.1) (State.isArrayOf_alike hZ.alike Ar68.2.1) (g := (mkF m 16 #[.val (.ref a1), .val (.int (8 : Int32)), .val (.ref b1o), .val (.int (6 : Int32))] [(.ref a), (.int (6 : Int32))])) rfl rfl (hb hby d12_16) _ ?_
      rw [len_of Sz68 Nn68]
      show Steps p.tables e below (T66.setTop (mkF m 17 #[.val (.ref a1), .val (.int (8 : Int32)), .val (.ref b1o), .val (.int (6 : Int32))] [(.int (8 : Int32)), (.int (6 : Int32))])) _
      refine XS.icmpNo X66.here hx rfl (hb hby d12_17) rfl (tlt (by decide)).2.1 ?_
      show Steps p.tables e below (T66.setTop (mkF m 20 #[.val (.ref a1), .val (.int (8 : Int32)), .val (.ref b1o), .val (.int (6 : Int32))] [])) _
      refine XS.aloadN X66.here hx rfl (hb hby d12_20) rfl rfl ?_
      show Steps p.tables e below (T66.setTop (mkF m 21 #[.val (.ref a1), .val (.int (8 : Int32)), .val (.ref b1o), .val (.int (6 : Int32))] [(.ref a1)])) _
      refine st69 _ ?_
      show Steps p.tables e below (T69.setTop (mkF m 24 #[.val (.ref a1), .val (.int (8 : Int32)), .val (.ref b1o), .val (.int (6 : Int32))] [(.ref a)])) _
      refine XS.iloadN X69.here hx rfl (hb hby d12_24) rfl ?_
      show Steps p.tables e below (T69.setTop (mkF m 25 #[.val (.ref a1), .val (.int (8 : Int32)), .val (.ref b1o), .val (.int (6 : Int32))] [(.int (6 : Int32)), (.ref a)])) _
      refine X69.laload hx (j := (6 : Int32)) (v := (.long (own_K arr 3))) (by rw [e69]; exact Ar70.1) (State.isArrayOf_alike hZ.alike Ar70.2.1) Ar70.2.2 hin71 hat71 (g := (mkF m 25 #[.val (.ref a1), .val (.int (8 : Int32)), .val (.ref b1o), .val (.int (6 : Int32))] [(.int (6 : Int32)), (.ref a)])) rfl rfl (hb hby d12_25) _ ?_
      show Steps p.tables e below (T69.setTop (mkF m 26 #[.val (.ref a1), .val (.int (8 : Int32)), .val (.ref b1o), .val (.int (6 : Int32))] [(.long (own_K arr 3))])) _
      refine X69.ldc2Long hx hown (mvT hZ (hw _ (List.mem_of_getElem? (i := 21) rfl))) (g := (mkF m 26 #[.val (.ref a1), .val (.int (8 : Int32)), .val (.ref b1o), .val (.int (6 : Int32))] [(.long (own_K arr 3))])) rfl (hb hby d12_26) _ ?_
      show Steps p.tables e below (T69.setTop (mkF m 29 #[.val (.ref a1), .val (.int (8 : Int32)), .val (.ref b1o), .val (.int (6 : Int32))] [(.long (-9223372036854775808 : Int64)), (.long (own_K arr 3))])) _
      refine XS.lcmp X69.here hx rfl (hb hby d12_29) rfl ?_
      show Steps p.tables e below (T69.setTop (mkF m 30 #[.val (.ref a1), .val (.int (8 : Int32)), .val (.ref b1o), .val (.int (6 : Int32))] [(.int (lcmpW (own_K arr 3) (-9223372036854775808 : Int64)))])) _
      refine XS.ifYes X69.here hx rfl (pc0 := 30) (pc' := 51) rfl (hb hby d12_30) rfl ((if0 _ _).trans (teq (own_lceq hc30)).1) (by decide) (by decide) ?_
      show Steps p.tables e below (T69.setTop (mkF m 51 #[.val (.ref a1), .val (.int (8 : Int32)), .val (.ref b1o), .val (.int (6 : Int32))] [])) _
      refine XS.iinc X69.here hx rfl (hb hby d12_51) rfl (l' := #[.val (.ref a1), .val (.int (8 : Int32)), .val (.ref b1o), .val (.int (8 : Int32))]) rfl ?_
      show Steps p.tables e below (T69.setTop (mkF m 54 #[.val (.ref a1), .val (.int (8 : Int32)), .val (.ref b1o), .val (.int (8 : Int32))] [])) _
      refine XS.goto X69.here hx rfl (pc0 := 54) (pc' := 11) rfl (hb hby d12_54) (by decide) (by decide) ?_
      exact kt
    · obtain ⟨T72, X72, e72, st72⟩ := getF X69 hx hZ hown (host := "") (Or.inl (hw _ (List.mem_of_getElem? (i := 19) rfl))) Via.refl e69 f65 (g := (mkF m 35 #[.val (.ref a1), .val (.int (8 : Int32)), .val (.ref b1o), .val (.int (6 : Int32))] [(.ref a1), (.ref b1o)])) rfl rfl (hb hby d12_35)
      obtain ⟨cl73, Ar73, qk73, Sz73, Nn73, Hh73, Gg73⟩ := id (f67)
      have hin74 : ¬ ((6 : Int32) < 0 ∨ cl73.slots.size ≤ ((6 : Int32)).toNatClampNeg) := inb_of Sz73 ⟨by decide, by decide⟩
      have hat74 : cl73.slots[((6 : Int32)).toNatClampNeg]? = some (.long (own_K arr 3)) := Has.at Hh73 hin74 (own_ld arr 6)
      obtain ⟨T75, X75, e75, st75⟩ := getF X72 hx hZ hown (host := "") (Or.inl (hw _ (List.mem_of_getElem? (i := 19) rfl))) Via.refl e72 f65 (g := (mkF m 41 #[.val (.ref a1), .val (.int (8 : Int32)), .val (.ref b1o), .val (.int (6 : Int32))] [(.ref a1), (.long (own_K arr 3)), (.ref b1o)])) rfl rfl (hb hby d12_41)
      obtain ⟨cl76, Ar76, qk76, Sz76, Nn76, Hh76, Gg76⟩ := id (f67)
      have hin77 : ¬ ((7 : Int32) < 0 ∨ cl76.slots.size ≤ ((7 : Int32)).toNatClampNeg) := inb_of Sz76 ⟨by decide, by decide⟩
      have hat77 : cl76.slots[((7 : Int32)).toNatClampNeg]? = some (.long (own_W arr 3)) := Has.at Hh76 hin77 (own_ld arr 7)
      have hfr : ∃ j, j < 8 ∧ own_K (ar46) j = own_FREE := own_cnt_free (by rw [rp46.2.2.2]; have := own_cnt_le (own_K arr) 3; omega)
      have f79 := (((EI4.keep KT13).keep KT28).keep KT46)
      have f80 := (((FS4.keep KT13 (ninS net4 nin0)).keep KT28 (ninS net4 nin0)).keep KT46 (ninS net4 nin0))
      have f81 := (((FH4.keep KT13 (ninS net4 nin0)).keep KT28 (ninS net4 nin0)).keep KT46 (ninS net4 nin0))
      obtain ⟨cq78, qq78, qq78'⟩ := f79.cell
      obtain ⟨_, _, ⟨T78, L78, k78, n78⟩, -, X78, ⟨Lc78, hQ78, l78, y78, z78⟩, st78⟩ := X75.privateBack hx (y := (⟨"com/example/pricewright/pricewright/core/LongSumTable", "put", "(JJ)V"⟩ : MethodName)) hown (mvT hZ (hw _ (List.mem_of_getElem? (i := 63) rfl))) (mvT hZ (hw _ (List.mem_of_getElem? (i := 64) rfl))) (own_selpriv (mvT hZ (hw _ (List.mem_of_getElem? (i := 7) rfl))) (Cond.privateMethod_at (mvP hZ (hw _ (List.mem_of_getElem? (i := 65) rfl)) (args := #[]))) (mvT hZ (hw _ (List.mem_of_getElem? (i := 64) rfl))) (by decide)) (Cond.privateMethod_at (mvP hZ (hw _ (List.mem_of_getElem? (i := 65) rfl)) (args := #[]))) (mvT hZ (hw _ (List.mem_of_getElem? (i := 66) rfl))) (by decide) (backOf (W := 0) (rmP l Z a0 hw [] b1o (own_K arr 3) (own_W arr 3) sa4 sk4 (ar46) 8 (61 : Int32) h46 n0 Z46 (Or.inr ⟨rfl, rfl⟩) f79 f80 f81 AV46 hfr hl46 net4 ga4) hZ (hw _ (List.mem_of_getElem? (i := 66) rfl)) (hw _ (List.mem_of_getElem? (i := 8) rfl)) (by decide) (by decide)) (g := (mkF m 48 #[.val (.ref a1), .val (.int (8 : Int32)), .val (.ref b1o), .val (.int (6 : Int32))] [(.long (own_W arr 3)), (.long (own_K arr 3)), (.ref b1o)])) rfl (by rw [hml]; rfl) (Steps.refl _) (a := b1o) (by rw [e75]; exact qq78) qq78' (argsL := [(.long (own_K arr 3)), (.long (own_W arr 3))]) (rest := []) (lenOf pd_3 rfl) rfl (by show 2 * 0 + _ ≤ _; exact Nat.le_of_eq rfl) (hb hby d12_48) (fun _ _ => ⟨rfl, e75, (by decide : 2 + 0 ≤ _), (by decide : 20 + 0 ≤ _)⟩)
      dsimp only [Pt.U, Pt.locs, Pt.cells, Pt.slots] at X78 l78 y78 z78 st78 hQ78
      subst l78 y78 z78
      obtain ⟨rfl, N78q, KC78, u78⟩ := hQ78
      have N78 := Fr.app N46 N78q
      have Z78 : n0 ≤ T78.heap.size := Nat.le_trans Z46 KC78.1
      obtain ⟨i78, hi78, P78, AV78⟩ := u78
      have pp := own_part_put Rp (i := 3) (by decide) hc30 rp46 hi78 P78
      refine ⟨T78, _, ((ar46.set (2 * i78) (own_K arr 3)).set (2 * i78 + 1) (own_W arr 3)), _, X78, rfl, N78, Z78, KC78, by rw [List.length_set, List.length_set]; exact hl46, AV78, by rw [own_Kins hl46 hi78, own_Wins hl46 hi78]; exact pp.2, fun target kt => ?_⟩
      show Steps p.tables e below (T46.setTop (mkF m 11 #[.val (.ref a1), .val (.int (8 : Int32)), .val (.ref b1o), .val (.int (6 : Int32))] [])) _
      refine XS.iloadN X46.here hx rfl (hb hby d12_11) rfl ?_
      show Steps p.tables e below (T46.setTop (mkF m 12 #[.val (.ref a1), .val (.int (8 : Int32)), .val (.ref b1o), .val (.int (6 : Int32))] [(.int (6 : Int32))])) _
      refine XS.aloadN X46.here hx rfl (hb hby d12_12) rfl rfl ?_
      show Steps p.tables e below (T46.setTop (mkF m 13 #[.val (.ref a1), .val (.int (8 : Int32)), .val (.ref b1o), .val (.int (6 : Int32))] [(.ref a1), (.int (6 : Int32))])) _
      refine st66 _ ?_
      show Steps p.tables e below (T66.setTop (mkF m 16 #[.val (.ref a1), .val (.int (8 : Int32)), .val (.ref b1o), .val (.int (6 : Int32))] [(.ref a), (.int (6 : Int32))])) _
      refine X66.arraylength hx (by rw [e66]; exact Ar68.1) (State.isArrayOf_alike hZ.alike Ar68.2.1) (g := (mkF m 16 #[.val (.ref a1), .val (.int (8 : Int32)), .val (.ref b1o), .val (.int (6 : Int32))] [(.ref a), (.int (6 : Int32))])) rfl rfl (hb hby d12_16) _ ?_
      rw [len_of Sz68 Nn68]
      show Steps p.tables e below (T66.setTop (mkF m 17 #[.val (.ref a1), .val (.int (8 : Int32)), .val (.ref b1o), .val (.int (6 : Int32))] [(.int (8 : Int32)), (.int (6 : Int32))])) _
      refine XS.icmpNo X66.here hx rfl (hb hby d12_17) rfl (tlt (by decide)).2.1 ?_
      show Steps p.tables e below (T66.setTop (mkF m 20 #[.val (.ref a1), .val (.int (8 : Int32)), .val (.ref b1o), .val (.int (6 : Int32))] [])) _
      refine XS.aloadN X66.here hx rfl (hb hby d12_20) rfl rfl ?_
      show Steps p.tables e below (T66.setTop (mkF m 21 #[.val (.ref a1), .val (.int (8 : Int32)), .val (.ref b1o), .val (.int (6 : Int32))] [(.ref a1)])) _
      refine st69 _ ?_
      show Steps p.tables e below (T69.setTop (mkF m 24 #[.val (.ref a1), .val (.int (8 : Int32)), .val (.ref b1o), .val (.int (6 : Int32))] [(.ref a)])) _
      refine XS.iloadN X69.here hx rfl (hb hby d12_24) rfl ?_
      show Steps p.tables e below (T69.setTop (mkF m 25 #[.val (.ref a1), .val (.int (8 : Int32)), .val (.ref b1o), .val (.int (6 : Int32))] [(.int (6 : Int32)), (.ref a)])) _
      refine X69.laload hx (j := (6 : Int32)) (v := (.long (own_K arr 3))) (by rw [e69]; exact Ar70.1) (State.isArrayOf_alike hZ.alike Ar70.2.1) Ar70.2.2 hin71 hat71 (g := (mkF m 25 #[.val (.ref a1), .val (.int (8 : Int32)), .val (.ref b1o), .val (.int (6 : Int32))] [(.int (6 : Int32)), (.ref a)])) rfl rfl (hb hby d12_25) _ ?_
      show Steps p.tables e below (T69.setTop (mkF m 26 #[.val (.ref a1), .val (.int (8 : Int32)), .val (.ref b1o), .val (.int (6 : Int32))] [(.long (own_K arr 3))])) _
      refine X69.ldc2Long hx hown (mvT hZ (hw _ (List.mem_of_getElem? (i := 21) rfl))) (g := (mkF m 26 #[.val (.ref a1), .val (.int (8 : Int32)), .val (.ref b1o), .val (.int (6 : Int32))] [(.long (own_K arr 3))])) rfl (hb hby d12_26) _ ?_
      show Steps p.tables e below (T69.setTop (mkF m 29 #[.val (.ref a1), .val (.int (8 : Int32)), .val (.ref b1o), .val (.int (6 : Int32))] [(.long (-9223372036854775808 : Int64)), (.long (own_K arr 3))])) _
      refine XS.lcmp X69.here hx rfl (hb hby d12_29) rfl ?_
      show Steps p.tables e below (T69.setTop (mkF m 30 #[.val (.ref a1), .val (.int (8 : Int32)), .val (.ref b1o), .val (.int (6 : Int32))] [(.int (lcmpW (own_K arr 3) (-9223372036854775808 : Int64)))])) _
      refine XS.ifNo X69.here hx rfl (hb hby d12_30) rfl ((if0 _ _).trans (feq (own_lcne hc30)).1) ?_
      show Steps p.tables e below (T69.setTop (mkF m 33 #[.val (.ref a1), .val (.int (8 : Int32)), .val (.ref b1o), .val (.int (6 : Int32))] [])) _
      refine XS.aloadN X69.here hx rfl (hb hby d12_33) rfl rfl ?_
      show Steps p.tables e below (T69.setTop (mkF m 34 #[.val (.ref a1), .val (.int (8 : Int32)), .val (.ref b1o), .val (.int (6 : Int32))] [(.ref b1o)])) _
      refine XS.aloadN X69.here hx rfl (hb hby d12_34) rfl rfl ?_
      show Steps p.tables e below (T69.setTop (mkF m 35 #[.val (.ref a1), .val (.int (8 : Int32)), .val (.ref b1o), .val (.int (6 : Int32))] [(.ref a1), (.ref b1o)])) _
      refine st72 _ ?_
      show Steps p.tables e below (T72.setTop (mkF m 38 #[.val (.ref a1), .val (.int (8 : Int32)), .val (.ref b1o), .val (.int (6 : Int32))] [(.ref a), (.ref b1o)])) _
      refine XS.iloadN X72.here hx rfl (hb hby d12_38) rfl ?_
      show Steps p.tables e below (T72.setTop (mkF m 39 #[.val (.ref a1), .val (.int (8 : Int32)), .val (.ref b1o), .val (.int (6 : Int32))] [(.int (6 : Int32)), (.ref a), (.ref b1o)])) _
      refine X72.laload hx (j := (6 : Int32)) (v := (.long (own_K arr 3))) (by rw [e72]; exact Ar73.1) (State.isArrayOf_alike hZ.alike Ar73.2.1) Ar73.2.2 hin74 hat74 (g := (mkF m 39 #[.val (.ref a1), .val (.int (8 : Int32)), .val (.ref b1o), .val (.int (6 : Int32))] [(.int (6 : Int32)), (.ref a), (.ref b1o)])) rfl rfl (hb hby d12_39) _ ?_
      show Steps p.tables e below (T72.setTop (mkF m 40 #[.val (.ref a1), .val (.int (8 : Int32)), .val (.ref b1o), .val (.int (6 : Int32))] [(.long (own_K arr 3)), (.ref b1o)])) _
      refine XS.aloadN X72.here hx rfl (hb hby d12_40) rfl rfl ?_
      show Steps p.tables e below (T72.setTop (mkF m 41 #[.val (.ref a1), .val (.int (8 : Int32)), .val (.ref b1o), .val (.int (6 : Int32))] [(.ref a1), (.long (own_K arr 3)), (.ref b1o)])) _
      refine st75 _ ?_
      show Steps p.tables e below (T75.setTop (mkF m 44 #[.val (.ref a1), .val (.int (8 : Int32)), .val (.ref b1o), .val (.int (6 : Int32))] [(.ref a), (.long (own_K arr 3)), (.ref b1o)])) _
      refine XS.iloadN X75.here hx rfl (hb hby d12_44) rfl ?_
      show Steps p.tables e below (T75.setTop (mkF m 45 #[.val (.ref a1), .val (.int (8 : Int32)), .val (.ref b1o), .val (.int (6 : Int32))] [(.int (6 : Int32)), (.ref a), (.long (own_K arr 3)), (.ref b1o)])) _
      refine XS.iconst X75.here hx rfl (hb hby d12_45) ?_
      show Steps p.tables e below (T75.setTop (mkF m 46 #[.val (.ref a1), .val (.int (8 : Int32)), .val (.ref b1o), .val (.int (6 : Int32))] [(.int (1 : Int32)), (.int (6 : Int32)), (.ref a), (.long (own_K arr 3)), (.ref b1o)])) _
      refine XS.iadd X75.here hx rfl (hb hby d12_46) rfl ?_
      show Steps p.tables e below (T75.setTop (mkF m 47 #[.val (.ref a1), .val (.int (8 : Int32)), .val (.ref b1o), .val (.int (6 : Int32))] [(.int (7 : Int32)), (.ref a), (.long (own_K arr 3)), (.ref b1o)])) _
      refine X75.laload hx (j := (7 : Int32)) (v := (.long (own_W arr 3))) (by rw [e75]; exact Ar76.1) (State.isArrayOf_alike hZ.alike Ar76.2.1) Ar76.2.2 hin77 hat77 (g := (mkF m 47 #[.val (.ref a1), .val (.int (8 : Int32)), .val (.ref b1o), .val (.int (6 : Int32))] [(.int (7 : Int32)), (.ref a), (.long (own_K arr 3)), (.ref b1o)])) rfl rfl (hb hby d12_47) _ ?_
      show Steps p.tables e below (T75.setTop (mkF m 48 #[.val (.ref a1), .val (.int (8 : Int32)), .val (.ref b1o), .val (.int (6 : Int32))] [(.long (own_W arr 3)), (.long (own_K arr 3)), (.ref b1o)])) _
      refine st78.trans ?_
      show Steps p.tables e below (T78.setTop (mkF m 51 #[.val (.ref a1), .val (.int (8 : Int32)), .val (.ref b1o), .val (.int (6 : Int32))] [])) _
      refine XS.iinc X78.here hx rfl (hb hby d12_51) rfl (l' := #[.val (.ref a1), .val (.int (8 : Int32)), .val (.ref b1o), .val (.int (8 : Int32))]) rfl ?_
      show Steps p.tables e below (T78.setTop (mkF m 54 #[.val (.ref a1), .val (.int (8 : Int32)), .val (.ref b1o), .val (.int (8 : Int32))] [])) _
      refine XS.goto X78.here hx rfl (pc0 := 54) (pc' := 11) rfl (hb hby d12_54) (by decide) (by decide) ?_
      exact kt
  obtain ⟨T64, h64, ar64, L64, X64, e64, N64, Z64, KT64, hl64, AV64, rp64, st64⟩ := tn64
  have f82 := (((((f6.keep KC4 (ninS ne2 nin0)).keep KT13 (ninS ne11 nin0)).keep KT28 (ninS ne11 nin0)).keep KT46 (ninS ne11 nin0)).keep KT64 (ninS ne11 nin0))
  obtain ⟨T83, X83, e83, st83⟩ := getF X64 hx hZ hown (host := "") (Or.inl (hw _ (List.mem_of_getElem? (i := 19) rfl))) Via.refl e64 f82 (g := (mkF m 13 #[.val (.ref a1), .val (.int (8 : Int32)), .val (.ref b1o), .val (.int (8 : Int32))] [(.ref a1), (.int (8 : Int32))])) rfl rfl (hb hby d12_13)
  have f84 := (((((f10.keep KC4 (ninS ne3 nin0)).keep KT13 (ninS ne12 nin0)).keep KT28 (ninS ne12 nin0)).keep KT46 (ninS ne12 nin0)).keep KT64 (ninS ne12 nin0))
  obtain ⟨cl85, Ar85, qk85, Sz85, Nn85, Hh85, Gg85⟩ := id (f84)
  have f86 := ((((FS4.keep KT13 (ninS net4 nin0)).keep KT28 (ninS net4 nin0)).keep KT46 (ninS net4 nin0)).keep KT64 (ninS net4 nin0))
  obtain ⟨T87, X87, e87, st87⟩ := getF X83 hx hZ hown (host := "") (Or.inl (hw _ (List.mem_of_getElem? (i := 19) rfl))) Via.refl e83 f86 (g := (mkF m 59 #[.val (.ref a1), .val (.int (8 : Int32)), .val (.ref b1o), .val (.int (8 : Int32))] [(.ref b1o), (.ref a1)])) rfl rfl (hb hby d12_59)
  have f88 := (((((f5.keep KC4).keep KT13).keep KT28).keep KT46).keep KT64)
  obtain ⟨T89, h89, X89, e89, W89, st89⟩ := putF X87 hx hZ hown (host := "") (Or.inl (hw _ (List.mem_of_getElem? (i := 19) rfl))) Via.refl e87 f82 f88 (Or.inl (hw _ (List.mem_of_getElem? (i := 20) rfl))) (hw _ (List.mem_of_getElem? (i := 7) rfl)) (ty := (.array .long)) (by decide) rfl rfl (g := (mkF m 62 #[.val (.ref a1), .val (.int (8 : Int32)), .val (.ref b1o), .val (.int (8 : Int32))] [(.ref sa4), (.ref a1)])) rfl rfl (hb hby d12_62)
  have N89 := Fr.snoc X89 N64 ga1
  have Z89 : n0 ≤ h89.size := by rw [W89.size]; exact Z64
  have Fw89 := f82.same W89
  have f90 := (((((FH4.keep KT13 (ninS net4 nin0)).keep KT28 (ninS net4 nin0)).keep KT46 (ninS net4 nin0)).keep KT64 (ninS net4 nin0)).other W89 (Or.inl (Ne.symm ne2)))
  obtain ⟨T91, X91, e91, st91⟩ := getF X89 hx hZ hown (host := "") (Or.inl (hw _ (List.mem_of_getElem? (i := 31) rfl))) Via.refl e89 f90 (g := (mkF m 67 #[.val (.ref a1), .val (.int (8 : Int32)), .val (.ref b1o), .val (.int (8 : Int32))] [(.ref b1o), (.ref a1)])) rfl rfl (hb hby d12_67)
  have f92 := (f88.wr W89)
  have f93 := ((((((f7.keep KC4 (ninS ne2 nin0)).keep KT13 (ninS ne11 nin0)).keep KT28 (ninS ne11 nin0)).keep KT46 (ninS ne11 nin0)).keep KT64 (ninS ne11 nin0)).other W89 (Or.inr (slot_ne (Or.inl (hw _ (List.mem_of_getElem? (i := 32) rfl))) (Or.inl (hw _ (List.mem_of_getElem? (i := 20) rfl))) (by decide) (t := .int) (t' := (.array .long)) (by decide) (by decide))))
  obtain ⟨T94, h94, X94, e94, W94, st94⟩ := putF X91 hx hZ hown (host := "") (Or.inl (hw _ (List.mem_of_getElem? (i := 31) rfl))) Via.refl e91 f93 f92 (Or.inl (hw _ (List.mem_of_getElem? (i := 32) rfl))) (hw _ (List.mem_of_getElem? (i := 7) rfl)) (ty := .int) (by decide) rfl rfl (g := (mkF m 70 #[.val (.ref a1), .val (.int (8 : Int32)), .val (.ref b1o), .val (.int (8 : Int32))] [(.int (61 : Int32)), (.ref a1)])) rfl rfl (hb hby d12_70)
  have N94 := Fr.snoc X94 N89 ga1
  have Z94 : n0 ≤ h94.size := by rw [W94.size]; exact Z89
  have Fw94 := f93.same W94
  obtain ⟨fs, hr, hrun, hended, hW, hsame⟩ := X94.leave (v := none) (fun _ => rfl)
  refine ⟨_, _, pre0 _ ?_, hrun, hended, _, _, rfl, ?_, ⟨_, rfl⟩, hW, hsame.mono (by decide) (by decide)⟩
  · show Steps p.tables e below (s₁.setTop (mkF m 0 #[.val (.ref a1), .val (.int (8 : Int32)), .unset, .unset] [])) _
    refine st1 _ ?_
    show Steps p.tables e below (T1.setTop (mkF m 3 #[.val (.ref a1), .val (.int (8 : Int32)), .unset, .unset] [(.ref b1o)])) _
    refine XS.dup X1.here hx rfl (hb hby d12_3) rfl rfl ?_
    show Steps p.tables e below (T1.setTop (mkF m 4 #[.val (.ref a1), .val (.int (8 : Int32)), .unset, .unset] [(.ref b1o), (.ref b1o)])) _
    refine XS.iloadN X1.here hx rfl (hb hby d12_4) rfl ?_
    show Steps p.tables e below (T1.setTop (mkF m 5 #[.val (.ref a1), .val (.int (8 : Int32)), .unset, .unset] [(.int (8 : Int32)), (.ref b1o), (.ref b1o)])) _
    refine st4.trans ?_
    show Steps p.tables e below (T4.setTop (mkF m 8 #[.val (.ref a1), .val (.int (8 : Int32)), .unset, .unset] [(.ref b1o)])) _
    refine XS.astoreN X4.here hx rfl (hb hby d12_8) rfl rfl (l' := #[.val (.ref a1), .val (.int (8 : Int32)), .val (.ref b1o), .unset]) rfl ?_
    show Steps p.tables e below (T4.setTop (mkF m 9 #[.val (.ref a1), .val (.int (8 : Int32)), .val (.ref b1o), .unset] [])) _
    refine XS.iconst X4.here hx rfl (hb hby d12_9) ?_
    show Steps p.tables e below (T4.setTop (mkF m 10 #[.val (.ref a1), .val (.int (8 : Int32)), .val (.ref b1o), .unset] [(.int (0 : Int32))])) _
    refine XS.istoreN X4.here hx rfl (hb hby d12_10) rfl (l' := #[.val (.ref a1), .val (.int (8 : Int32)), .val (.ref b1o), .val (.int (0 : Int32))]) rfl ?_
    show Steps p.tables e below (T4.setTop (mkF m 11 #[.val (.ref a1), .val (.int (8 : Int32)), .val (.ref b1o), .val (.int (0 : Int32))] [])) _
    refine st13 _ ?_
    show Steps p.tables e below (T13.setTop (mkF m 11 #[.val (.ref a1), .val (.int (8 : Int32)), .val (.ref b1o), .val (.int (2 : Int32))] [])) _
    refine st28 _ ?_
    show Steps p.tables e below (T28.setTop (mkF m 11 #[.val (.ref a1), .val (.int (8 : Int32)), .val (.ref b1o), .val (.int (4 : Int32))] [])) _
    refine st46 _ ?_
    show Steps p.tables e below (T46.setTop (mkF m 11 #[.val (.ref a1), .val (.int (8 : Int32)), .val (.ref b1o), .val (.int (6 : Int32))] [])) _
    refine st64 _ ?_
    show Steps p.tables e below (T64.setTop (mkF m 11 #[.val (.ref a1), .val (.int (8 : Int32)), .val (.ref b1o), .val (.int (8 : Int32))] [])) _
    refine XS.iloadN X64.here hx rfl (hb hby d12_11) rfl ?_
    show Steps p.tables e below (T64.setTop (mkF m 12 #[.val (.ref a1), .val (.int (8 : Int32)), .val (.ref b1o), .val (.int (8 : Int32))] [(.int (8 : Int32))])) _
    refine XS.aloadN X64.here hx rfl (hb hby d12_12) rfl rfl ?_
    show Steps p.tables e below (T64.setTop (mkF m 13 #[.val (.ref a1), .val (.int (8 : Int32)), .val (.ref b1o), .val (.int (8 : Int32))] [(.ref a1), (.int (8 : Int32))])) _
    refine st83 _ ?_
    show Steps p.tables e below (T83.setTop (mkF m 16 #[.val (.ref a1), .val (.int (8 : Int32)), .val (.ref b1o), .val (.int (8 : Int32))] [(.ref a), (.int (8 : Int32))])) _
    refine X83.arraylength hx (by rw [e83]; exact Ar85.1) (State.isArrayOf_alike hZ.alike Ar85.2.1) (g := (mkF m 16 #[.val (.ref a1), .val (.int (8 : Int32)), .val (.ref b1o), .val (.int (8 : Int32))] [(.ref a), (.int (8 : Int32))])) rfl rfl (hb hby d12_16) _ ?_
    rw [len_of Sz85 Nn85]
    show Steps p.tables e below (T83.setTop (mkF m 17 #[.val (.ref a1), .val (.int (8 : Int32)), .val (.ref b1o), .val (.int (8 : Int32))] [(.int (8 : Int32)), (.int (8 : Int32))])) _
    refine XS.icmpYes X83.here hx rfl (pc0 := 17) (pc' := 57) rfl (hb hby d12_17) rfl (flt (by decide)).2.1 (by decide) (by decide) ?_
    show Steps p.tables e below (T83.setTop (mkF m 57 #[.val (.ref a1), .val (.int (8 : Int32)), .val (.ref b1o), .val (.int (8 : Int32))] [])) _
    refine XS.aloadN X83.here hx rfl (hb hby d12_57) rfl rfl ?_
    show Steps p.tables e below (T83.setTop (mkF m 58 #[.val (.ref a1), .val (.int (8 : Int32)), .val (.ref b1o), .val (.int (8 : Int32))] [(.ref a1)])) _
    refine XS.aloadN X83.here hx rfl (hb hby d12_58) rfl rfl ?_
    show Steps p.tables e below (T83.setTop (mkF m 59 #[.val (.ref a1), .val (.int (8 : Int32)), .val (.ref b1o), .val (.int (8 : Int32))] [(.ref b1o), (.ref a1)])) _
    refine st87 _ ?_
    show Steps p.tables e below (T87.setTop (mkF m 62 #[.val (.ref a1), .val (.int (8 : Int32)), .val (.ref b1o), .val (.int (8 : Int32))] [(.ref sa4), (.ref a1)])) _
    refine st89 _ ?_
    show Steps p.tables e below (T89.setTop (mkF m 65 #[.val (.ref a1), .val (.int (8 : Int32)), .val (.ref b1o), .val (.int (8 : Int32))] [])) _
    refine XS.aloadN X89.here hx rfl (hb hby d12_65) rfl rfl ?_
    show Steps p.tables e below (T89.setTop (mkF m 66 #[.val (.ref a1), .val (.int (8 : Int32)), .val (.ref b1o), .val (.int (8 : Int32))] [(.ref a1)])) _
    refine XS.aloadN X89.here hx rfl (hb hby d12_66) rfl rfl ?_
    show Steps p.tables e below (T89.setTop (mkF m 67 #[.val (.ref a1), .val (.int (8 : Int32)), .val (.ref b1o), .val (.int (8 : Int32))] [(.ref b1o), (.ref a1)])) _
    refine st91 _ ?_
    show Steps p.tables e below (T91.setTop (mkF m 70 #[.val (.ref a1), .val (.int (8 : Int32)), .val (.ref b1o), .val (.int (8 : Int32))] [(.int (61 : Int32)), (.ref a1)])) _
    refine st94 _ ?_
    show Steps p.tables e below (T94.setTop (mkF m 73 #[.val (.ref a1), .val (.int (8 : Int32)), .val (.ref b1o), .val (.int (8 : Int32))] [])) _
    exact X94.returnOut hx Bd.returns (hb hby d12_73) hr
  · show QrmR Z a1 a k arr zi D mm sz h0 n0 _ T94.heap _
    have f95 := (f92.wr W94)
    have f96 := (Fw89.other W94 (Or.inr (slot_ne (Or.inl (hw _ (List.mem_of_getElem? (i := 20) rfl))) (Or.inl (hw _ (List.mem_of_getElem? (i := 32) rfl))) (by decide) (t := (.array .long)) (t' := .int) (by decide) (by decide))))
    have f97 := (((((((f8.keep KC4 (ninS ne2 nin0)).keep KT13 (ninS ne11 nin0)).keep KT28 (ninS ne11 nin0)).keep KT46 (ninS ne11 nin0)).keep KT64 (ninS ne11 nin0)).other W89 (Or.inr (slot_ne (Or.inl (hw _ (List.mem_of_getElem? (i := 49) rfl))) (Or.inl (hw _ (List.mem_of_getElem? (i := 20) rfl))) (by decide) (t := .int) (t' := (.array .long)) (by decide) (by decide)))).other W94 (Or.inr (slot_ne (Or.inl (hw _ (List.mem_of_getElem? (i := 49) rfl))) (Or.inl (hw _ (List.mem_of_getElem? (i := 32) rfl))) (by decide) (t := .int) (t' := .int) (by decide) (by decide))))
    have f98 := (((((((f9.keep KC4 (ninS ne2 nin0)).keep KT13 (ninS ne11 nin0)).keep KT28 (ninS ne11 nin0)).keep KT46 (ninS ne11 nin0)).keep KT64 (ninS ne11 nin0)).other W89 (Or.inr (slot_ne (Or.inl (hw _ (List.mem_of_getElem? (i := 47) rfl))) (Or.inl (hw _ (List.mem_of_getElem? (i := 20) rfl))) (by decide) (t := (.array .long)) (t' := (.array .long)) (by decide) (by decide)))).other W94 (Or.inr (slot_ne (Or.inl (hw _ (List.mem_of_getElem? (i := 47) rfl))) (Or.inl (hw _ (List.mem_of_getElem? (i := 32) rfl))) (by decide) (t := (.array .long)) (t' := .int) (by decide) (by decide))))
    have f99 := ((AV64.other W89 (Ne.symm ne11)).other W94 (Ne.symm ne11))
    rw [e94]
    exact ⟨rfl, N94, Z94, sa4, _, _, ga4, f95, f96, Fw94, f97, f98, f99, hl64, own_part_all Rp rp64⟩
theorem pd_4 : parseMethodDescriptor "(J)J" = some ⟨[.long], some .long⟩ := by decide +kernel
theorem pd_5 : parseMethodDescriptor "(JJ)J" = some ⟨[.long, .long], some .long⟩ := by decide +kernel
theorem d7_0 : decode prog_19_method_3_code 0 = .ok (.aload_n 0, 1) := by decide +kernel
theorem d7_1 : decode prog_19_method_3_code 1 = .ok (.lload_n 1, 1) := by decide +kernel
theorem d7_2 : decode prog_19_method_3_code 2 = .ok (.invokestatic 28, 3) := by decide +kernel
theorem d7_5 : decode prog_19_method_3_code 5 = .ok (.invokevirtual 32, 3) := by decide +kernel
theorem d7_8 : decode prog_19_method_3_code 8 = .ok (.istore 5, 2) := by decide +kernel
theorem d7_10 : decode prog_19_method_3_code 10 = .ok (.aload_n 0, 1) := by decide +kernel
theorem d7_11 : decode prog_19_method_3_code 11 = .ok (.getfield 14, 3) := by decide +kernel
theorem d7_14 : decode prog_19_method_3_code 14 = .ok (.iload 5, 2) := by decide +kernel
theorem d7_16 : decode prog_19_method_3_code 16 = .ok (.laload, 1) := by decide +kernel
theorem d7_17 : decode prog_19_method_3_code 17 = .ok (.lload_n 1, 1) := by decide +kernel
theorem d7_18 : decode prog_19_method_3_code 18 = .ok (.lcmp, 1) := by decide +kernel
theorem d7_19 : decode prog_19_method_3_code 19 = .ok (.ifCond .ne 26, 3) := by decide +kernel
theorem d7_22 : decode prog_19_method_3_code 22 = .ok (.aload_n 0, 1) := by decide +kernel
theorem d7_23 : decode prog_19_method_3_code 23 = .ok (.getfield 14, 3) := by decide +kernel
theorem d7_26 : decode prog_19_method_3_code 26 = .ok (.iload 5, 2) := by decide +kernel
theorem d7_28 : decode prog_19_method_3_code 28 = .ok (.iconst 1, 1) := by decide +kernel
theorem d7_29 : decode prog_19_method_3_code 29 = .ok (.iadd, 1) := by decide +kernel
theorem d7_30 : decode prog_19_method_3_code 30 = .ok (.aload_n 0, 1) := by decide +kernel
theorem d7_31 : decode prog_19_method_3_code 31 = .ok (.getfield 14, 3) := by decide +kernel
theorem d7_34 : decode prog_19_method_3_code 34 = .ok (.iload 5, 2) := by decide +kernel
theorem d7_36 : decode prog_19_method_3_code 36 = .ok (.iconst 1, 1) := by decide +kernel
theorem d7_37 : decode prog_19_method_3_code 37 = .ok (.iadd, 1) := by decide +kernel
theorem d7_38 : decode prog_19_method_3_code 38 = .ok (.laload, 1) := by decide +kernel
theorem d7_39 : decode prog_19_method_3_code 39 = .ok (.lload_n 3, 1) := by decide +kernel
theorem d7_40 : decode prog_19_method_3_code 40 = .ok (.invokestatic 35, 3) := by decide +kernel
theorem d7_43 : decode prog_19_method_3_code 43 = .ok (.lastore, 1) := by decide +kernel
theorem d7_44 : decode prog_19_method_3_code 44 = .ok (.return_, 1) := by decide +kernel
theorem d7_45 : decode prog_19_method_3_code 45 = .ok (.aload_n 0, 1) := by decide +kernel
theorem d7_46 : decode prog_19_method_3_code 46 = .ok (.getfield 14, 3) := by decide +kernel
theorem d7_49 : decode prog_19_method_3_code 49 = .ok (.iload 5, 2) := by decide +kernel
theorem d7_51 : decode prog_19_method_3_code 51 = .ok (.lload_n 1, 1) := by decide +kernel
theorem d7_52 : decode prog_19_method_3_code 52 = .ok (.lastore, 1) := by decide +kernel
theorem d7_53 : decode prog_19_method_3_code 53 = .ok (.aload_n 0, 1) := by decide +kernel
theorem d7_54 : decode prog_19_method_3_code 54 = .ok (.getfield 14, 3) := by decide +kernel
theorem d7_57 : decode prog_19_method_3_code 57 = .ok (.iload 5, 2) := by decide +kernel
theorem d7_59 : decode prog_19_method_3_code 59 = .ok (.iconst 1, 1) := by decide +kernel
theorem d7_60 : decode prog_19_method_3_code 60 = .ok (.iadd, 1) := by decide +kernel
theorem d7_61 : decode prog_19_method_3_code 61 = .ok (.lload_n 3, 1) := by decide +kernel
theorem d7_62 : decode prog_19_method_3_code 62 = .ok (.lastore, 1) := by decide +kernel
theorem d7_63 : decode prog_19_method_3_code 63 = .ok (.aload_n 0, 1) := by decide +kernel
theorem d7_64 : decode prog_19_method_3_code 64 = .ok (.aconst_null, 1) := by decide +kernel
theorem d7_65 : decode prog_19_method_3_code 65 = .ok (.putfield 41, 3) := by decide +kernel
theorem d7_68 : decode prog_19_method_3_code 68 = .ok (.aload_n 0, 1) := by decide +kernel
theorem d7_69 : decode prog_19_method_3_code 69 = .ok (.dup, 1) := by decide +kernel
theorem d7_70 : decode prog_19_method_3_code 70 = .ok (.getfield 44, 3) := by decide +kernel
theorem d7_73 : decode prog_19_method_3_code 73 = .ok (.iconst 1, 1) := by decide +kernel
theorem d7_74 : decode prog_19_method_3_code 74 = .ok (.iadd, 1) := by decide +kernel
theorem d7_75 : decode prog_19_method_3_code 75 = .ok (.dup_x1, 1) := by decide +kernel
theorem d7_76 : decode prog_19_method_3_code 76 = .ok (.putfield 44, 3) := by decide +kernel
theorem d7_79 : decode prog_19_method_3_code 79 = .ok (.aload_n 0, 1) := by decide +kernel
theorem d7_80 : decode prog_19_method_3_code 80 = .ok (.getfield 14, 3) := by decide +kernel
theorem d7_83 : decode prog_19_method_3_code 83 = .ok (.arraylength, 1) := by decide +kernel
theorem d7_84 : decode prog_19_method_3_code 84 = .ok (.iconst 4, 1) := by decide +kernel
theorem d7_85 : decode prog_19_method_3_code 85 = .ok (.idiv, 1) := by decide +kernel
theorem d7_86 : decode prog_19_method_3_code 86 = .ok (.if_icmp .le 12, 3) := by decide +kernel
theorem d7_89 : decode prog_19_method_3_code 89 = .ok (.aload_n 0, 1) := by decide +kernel
theorem d7_90 : decode prog_19_method_3_code 90 = .ok (.aload_n 0, 1) := by decide +kernel
theorem d7_91 : decode prog_19_method_3_code 91 = .ok (.getfield 14, 3) := by decide +kernel
theorem d7_94 : decode prog_19_method_3_code 94 = .ok (.arraylength, 1) := by decide +kernel
theorem d7_95 : decode prog_19_method_3_code 95 = .ok (.invokevirtual 47, 3) := by decide +kernel
theorem d7_98 : decode prog_19_method_3_code 98 = .ok (.return_, 1) := by decide +kernel
theorem pn_7 : plainName "com/example/pricewright/pricewright/core/LongSumTable" = true := by first | (simp [plainName, overriddenIn]; done) | decide +kernel
theorem ef_rmA (m : MethodId) (a1 : Addr) (q2 : Int64) (q3 : Int64) : entryFrame m #[(.ref a1), (.long q2), (.long q3)] 6 = mkF m 0 #[.val (.ref a1), .val (.long q2), .second, .val (.long q3), .second, .unset] [] := by first | (simp [entryFrame, mkF, argsToLocals, Value.category]; done) | rfl
def QrmA (Z : State) (a1 : Addr) (q2 : Int64) (q3 : Int64) (a : Addr) (k : ClassId) (arr : List Int64) (D : Int64 → Prop) (mm : Int64 → Int64) (sz : Nat) (so : Value) (h0 : Heap) (n0 : Nat) (v : Option Value) (h : Heap) (L : List Loc) : Prop := v = none ∧ Fr n0 L ∧ n0 ≤ h.size ∧ ∃ (n' sz' : Nat) (so' : Value) (D' : Int64 → Prop) (M' : Int64 → Int64), (∀ x, D' x ↔ (D x ∨ x = q2)) ∧ (∀ x, M' x = if x = q2 then mm q2 + q3 else mm x) ∧ own_Tab Z h n0 a1 n' D' M' sz' so' ∧ ((n' = 4 ∧ sz' ≤ 2) ∨ (n' = 8 ∧ sz' = 3)) ∧ sz' ≤ sz + 1 ∧ (D q2 → sz' = sz ∧ so' = so) ∧ (¬ D q2 → sz' = sz + 1 ∧ so' = .null)
set_option maxRecDepth 65536 in
set_option maxHeartbeats 40000000 in
theorem rmA (l : Launch) (Z : State) (a0 : Array Value) (hw : ∀ d ∈ tables_1, d.before a0 Z = true) (ws : List Jvm.Cond) (a1 : Addr) (q2 : Int64) (q3 : Int64) (a : Addr) (k : ClassId) (arr : List Int64) (D : Int64 → Prop) (mm : Int64 → Int64) (sz : Nat) (so : Value) (h0 : Heap) (n0 : Nat) (Z0 : n0 ≤ h0.size) (E : Exa Z h0 a1 "com/example/pricewright/pricewright/core/LongSumTable") (FS : Fld Z h0 a1 "com/example/pricewright/pricewright/core/LongSumTable" "slots" "[J" (.ref a)) (FH : Fld Z h0 a1 "com/example/pricewright/pricewright/core/LongSumTable" "shift" "I" (.int (62 : Int32))) (FZ : Fld Z h0 a1 "com/example/pricewright/pricewright/core/LongSumTable" "size" "I" (.int (Int32.ofNat sz))) (FQ : Fld Z h0 a1 "com/example/pricewright/pricewright/core/LongSumTable" "sorted" "[J" so) (AV : Arv Z h0 a k .long (8 : Int32) (arr.map Value.long) (.long (0 : Int64))) (hlen : arr.length = 2 * 4) (hne : a1 ≠ a) (ga1 : n0 ≤ a1) (ga : n0 ≤ a) (Rp : own_Rep (own_K arr) (own_W arr) 4 (own_hs 4) D mm sz) (hsz : sz ≤ 2) (hk : ¬ q2 = (-9223372036854775808 : Int64)) (hov : D q2 → ¬ ((mm q2 ^^^ (mm q2 + q3)) &&& (q3 ^^^ (mm q2 + q3))) < (0 : Int64)) :
    MetFree l (⟨"com/example/pricewright/pricewright/core/LongSumTable", "add", "(JJ)V"⟩ : MethodName) (head1 (Jvm.Cond.code (⟨"com/example/pricewright/pricewright/core/LongSumTable", "add", "(JJ)V"⟩ : MethodName) prog_19_method_3_code 6 none :: ws) ({ frames := 4, cells := 2, slots := 20, locals := 59 } : Room)) (fun a U => a = #[(.ref a1), (.long q2), (.long q3)] ∧ Z.Warmed39 U.vm ∧ U.heap = h0) (fun _ _ _ _ _ => True) (fun _ U o U' => ∃ v L, o = .returned v ∧ QrmA Z a1 q2 q3 a k arr D mm sz so h0 n0 v U'.heap L ∧ FrameEnd U o U' L ({ frames := 4, cells := 2, slots := 20, locals := 59 } : Room).cells ({ frames := 4, cells := 2, slots := 20, locals := 59 } : Room).slots) := by
  refine MetFree.of_bodySF (plainFor_of_name pn_7) hisR ?_
  intro p e s m args below meth c s₁ Bd hml0 hP hK
  obtain ⟨rfl, hZ, hh⟩ := hP
  have hx := Bd.exec
  have hby := Bd.bytes
  have hml : c.maxLocals = 6 := hml0
  have hown : s.vm.findClass "com/example/pricewright/pricewright/core/LongSumTable" = some m.cls := findClass_of_methodNamed Bd.named
  have hnm := (name_of_methodNamed Bd.named Bd.method).1
  have X0 : Stand p l e ({ frames := 4, cells := 2, slots := 20, locals := 59 } : Room) s m #[(.ref a1), (.long q2), (.long q3)] below meth c s₁ [] 0 0 := Stand.of_body Bd
  have e0 : s₁.heap = h0 := by rw [← hh, Bd.state]; rfl
  have N0 := Fr.nil n0
  have pre0 : ∀ t, Steps p.tables e below (s₁.setTop (mkF m 0 #[.val (.ref a1), .val (.long q2), .second, .val (.long q3), .second, .unset] [])) t → Steps p.tables e below (s₁.setTop (entryFrame m #[(.ref a1), (.long q2), (.long q3)] 6)) t := fun t k => castTop (ef_rmA m a1 q2 q3) k
  have hfr : ∃ j, j < 4 ∧ own_K arr j = own_FREE := own_cnt_free (by rw [Rp.2.2.2]; omega)
  obtain ⟨_, _, ⟨T1, L1, k1, n1⟩, -, X1, ⟨Lc1, hQ1, l1, y1, z1⟩, st1⟩ := Jvm.LawKit.callS X0 hx (y := (⟨"com/example/pricewright/pricewright/core/LongSumTable", "held", "(J)J"⟩ : MethodName)) hown (mvT hZ (hw _ (List.mem_of_getElem? (i := 38) rfl))) (mvT hZ (hw _ (List.mem_of_getElem? (i := 39) rfl))) (mvT hZ (hw _ (List.mem_of_getElem? (i := 8) rfl))) (mvT hZ (hw _ (List.mem_of_getElem? (i := 40) rfl))) (by decide) (backOf (W := 1) (rmH l Z a0 hw [] q2  h0 n0 Z0 hk) hZ (hw _ (List.mem_of_getElem? (i := 40) rfl)) (hw _ (List.mem_of_getElem? (i := 8) rfl)) (by decide) (by decide)) (g := (mkF m 2 #[.val (.ref a1), .val (.long q2), .second, .val (.long q3), .second, .unset] [(.long q2), (.ref a1)])) rfl (by rw [hml]; rfl) (argsL := [(.long q2)]) (rest := [(.ref a1)]) (lenOf pd_4 rfl) rfl (by show 2 * 0 + _ ≤ _; exact Nat.le_of_eq rfl) (hb hby d7_2) (fun _ _ => ⟨rfl, e0, (by decide : 0 + 0 ≤ _), (by decide : 0 + 0 ≤ _)⟩)
  dsimp only [Pt.U, Pt.locs, Pt.cells, Pt.slots] at X1 l1 y1 z1 st1 hQ1
  subst l1 y1 z1
  obtain ⟨r1, hr1, rfl, N1q, e1⟩ := hQ1
  have N1 := Fr.app N0 N1q
  have hs1 := hr1.symm
  subst hs1
  obtain ⟨cq2, qq2, qq2'⟩ := E.cell
  obtain ⟨_, _, ⟨T2, L2, k2, n2⟩, -, X2, ⟨Lc2, hQ2, l2, y2, z2⟩, st2⟩ := X1.privateBack hx (y := (⟨"com/example/pricewright/pricewright/core/LongSumTable", "index", "(J)I"⟩ : MethodName)) hown (mvT hZ (hw _ (List.mem_of_getElem? (i := 41) rfl))) (mvT hZ (hw _ (List.mem_of_getElem? (i := 42) rfl))) (own_selpriv (mvT hZ (hw _ (List.mem_of_getElem? (i := 7) rfl))) (Cond.privateMethod_at (mvP hZ (hw _ (List.mem_of_getElem? (i := 43) rfl)) (args := #[]))) (mvT hZ (hw _ (List.mem_of_getElem? (i := 42) rfl))) (by decide)) (Cond.privateMethod_at (mvP hZ (hw _ (List.mem_of_getElem? (i := 43) rfl)) (args := #[]))) (mvT hZ (hw _ (List.mem_of_getElem? (i := 44) rfl))) (by decide) (backOf (W := 0) (rmX l Z a0 hw [] a1 q2 a k (arr) 4 (62 : Int32) h0 n0 Z0 (Or.inl ⟨rfl, rfl⟩) FS FH AV hfr) hZ (hw _ (List.mem_of_getElem? (i := 44) rfl)) (hw _ (List.mem_of_getElem? (i := 8) rfl)) (by decide) (by decide)) (g := (mkF m 5 #[.val (.ref a1), .val (.long q2), .second, .val (.long q3), .second, .unset] [(.long q2), (.ref a1)])) rfl (by rw [hml]; rfl) (Steps.refl _) (a := a1) (by rw [e1]; exact qq2) qq2' (argsL := [(.long q2)]) (rest := []) (lenOf pd_1 rfl) rfl (by show 2 * 0 + _ ≤ _; exact Nat.le_of_eq rfl) (hb hby d7_5) (fun _ _ => ⟨rfl, e1, (by decide : 0 + 0 ≤ _), (by decide : 0 + 0 ≤ _)⟩)
  dsimp only [Pt.U, Pt.locs, Pt.cells, Pt.slots] at X2 l2 y2 z2 st2 hQ2
  subst l2 y2 z2
  obtain ⟨r2, hr2, rfl, N2q, e2⟩ := hQ2
  have N2 := Fr.app N1 N2q
  obtain ⟨i2, hi2, rfl, P2⟩ := hr2
  obtain ⟨T3, X3, e3, st3⟩ := getF X2 hx hZ hown (host := "") (Or.inl (hw _ (List.mem_of_getElem? (i := 19) rfl))) Via.refl e2 FS (g := (mkF m 11 #[.val (.ref a1), .val (.long q2), .second, .val (.long q3), .second, .val (.int (own_p i2))] [(.ref a1)])) rfl rfl (hb hby d7_11)
  obtain ⟨cl4, Ar4, qk4, Sz4, Nn4, Hh4, Gg4⟩ := id (AV)
  have hin5 : ¬ ((own_p i2) < 0 ∨ cl4.slots.size ≤ ((own_p i2)).toNatClampNeg) := inb_of Sz4 ⟨own_p0 (own_lt8 hi2 (Or.inl rfl : 4 = 4 ∨ 4 = 8)), own_plt hi2 (Or.inl rfl : 4 = 4 ∨ 4 = 8)⟩
  have hat5 : cl4.slots[((own_p i2)).toNatClampNeg]? = some (.long (own_K arr i2)) := Has.at Hh4 hin5 (own_ldK arr (own_lt8 hi2 (Or.inl rfl : 4 = 4 ∨ 4 = 8)))
  by_cases hc19 : (own_K arr i2) = q2
  · obtain ⟨T6, X6, e6, st6⟩ := getF X3 hx hZ hown (host := "") (Or.inl (hw _ (List.mem_of_getElem? (i := 19) rfl))) Via.refl e3 FS (g := (mkF m 23 #[.val (.ref a1), .val (.long q2), .second, .val (.long q3), .second, .val (.int (own_p i2))] [(.ref a1)])) rfl rfl (hb hby d7_23)
    obtain ⟨T7, X7, e7, st7⟩ := getF X6 hx hZ hown (host := "") (Or.inl (hw _ (List.mem_of_getElem? (i := 19) rfl))) Via.refl e6 FS (g := (mkF m 31 #[.val (.ref a1), .val (.long q2), .second, .val (.long q3), .second, .val (.int (own_p i2))] [(.ref a1), (.int ((own_p i2) + (1 : Int32))), (.ref a)])) rfl rfl (hb hby d7_31)
    obtain ⟨cl8, Ar8, qk8, Sz8, Nn8, Hh8, Gg8⟩ := id (AV)
    have hin9 : ¬ (((own_p i2) + (1 : Int32)) < 0 ∨ cl8.slots.size ≤ (((own_p i2) + (1 : Int32))).toNatClampNeg) := inb_of Sz8 ⟨own_q0 (own_lt8 hi2 (Or.inl rfl : 4 = 4 ∨ 4 = 8)), own_qlt hi2 (Or.inl rfl : 4 = 4 ∨ 4 = 8)⟩
    have hat9 : cl8.slots[(((own_p i2) + (1 : Int32))).toNatClampNeg]? = some (.long (own_W arr i2)) := Has.at Hh8 hin9 (own_ldW arr (own_lt8 hi2 (Or.inl rfl : 4 = 4 ∨ 4 = 8)))
    have dm := own_rep_dom Rp hi2 hk hc19
    have ho : ¬ ((own_W arr i2 ^^^ (own_W arr i2 + q3)) &&& (q3 ^^^ (own_W arr i2 + q3))) < (0 : Int64) := by rw [dm.2]; exact hov dm.1
    obtain ⟨_, _, ⟨T10, L10, k10, n10⟩, -, X10, ⟨Lc10, hQ10, l10, y10, z10⟩, st10⟩ := Jvm.LawKit.callS X7 hx (y := (⟨"java/lang/Math", "addExact", "(JJ)J"⟩ : MethodName)) hown (mvT hZ (hw _ (List.mem_of_getElem? (i := 67) rfl))) (mvT hZ (hw _ (List.mem_of_getElem? (i := 68) rfl))) (mvT hZ (hw _ (List.mem_of_getElem? (i := 69) rfl))) (mvT hZ (hw _ (List.mem_of_getElem? (i := 70) rfl))) (by decide) (backOf (W := 2) (rmE l Z a0 hw [] (own_W arr i2) q3  h0 n0 Z0 ho) hZ (hw _ (List.mem_of_getElem? (i := 70) rfl)) (hw _ (List.mem_of_getElem? (i := 69) rfl)) (by decide) (by decide)) (g := (mkF m 40 #[.val (.ref a1), .val (.long q2), .second, .val (.long q3), .second, .val (.int (own_p i2))] [(.long q3), (.long (own_W arr i2)), (.int ((own_p i2) + (1 : Int32))), (.ref a)])) rfl (by rw [hml]; rfl) (argsL := [(.long (own_W arr i2)), (.long q3)]) (rest := [(.int ((own_p i2) + (1 : Int32))), (.ref a)]) (lenOf pd_5 rfl) rfl (by show 2 * 0 + _ ≤ _; exact Nat.le_of_eq rfl) (hb hby d7_40) (fun _ _ => ⟨rfl, e7, (by decide : 0 + 0 ≤ _), (by decide : 0 + 0 ≤ _)⟩)
    dsimp only [Pt.U, Pt.locs, Pt.cells, Pt.slots] at X10 l10 y10 z10 st10 hQ10
    subst l10 y10 z10
    obtain ⟨r10, hr10, rfl, N10q, e10⟩ := hQ10
    have N10 := Fr.app N2 N10q
    subst hr10
    obtain ⟨cl11, Ar11, qk11, Sz11, Nn11, Hh11, Gg11⟩ := id (AV)
    have hin12 : ¬ (((own_p i2) + (1 : Int32)) < 0 ∨ cl11.slots.size ≤ (((own_p i2) + (1 : Int32))).toNatClampNeg) := inb_of Sz11 ⟨own_q0 (own_lt8 hi2 (Or.inl rfl : 4 = 4 ∨ 4 = 8)), own_qlt hi2 (Or.inl rfl : 4 = 4 ∨ 4 = 8)⟩
    obtain ⟨T12, h12, X12, e12, W12, st12⟩ := stJ X10 hx hZ e10 Ar11 (j := ((own_p i2) + (1 : Int32))) hin12 (g := (mkF m 43 #[.val (.ref a1), .val (.long q2), .second, .val (.long q3), .second, .val (.int (own_p i2))] [(.long (own_W arr i2 + q3)), (.int ((own_p i2) + (1 : Int32))), (.ref a)])) rfl rfl (hb hby d7_43)
    have N12 := Fr.snoc X12 N10 ga
    have Z12 : n0 ≤ h12.size := by rw [W12.size]; exact Z0
    have V12 : Arv Z h12 a k .long (8 : Int32) ((arr.set (2 * i2 + 1) (own_W arr i2 + q3)).map Value.long) (.long (0 : Int64)) := by
      have q := Arv.set Ar11 qk11 Sz11 Nn11 Hh11 Gg11 rfl W12 (2 * i2 + 1) (own_qN (own_lt8 hi2 (Or.inl rfl : 4 = 4 ∨ 4 = 8))) (by rw [List.length_map, hlen]; omega)
      rw [List.map_set]; exact q
    obtain ⟨fs, hr, hrun, hended, hW, hsame⟩ := X12.leave (v := none) (fun _ => rfl)
    refine ⟨_, _, pre0 _ ?_, hrun, hended, _, _, rfl, ?_, ⟨_, rfl⟩, hW, hsame.mono (by decide) (by decide)⟩
    · show Steps p.tables e below (s₁.setTop (mkF m 0 #[.val (.ref a1), .val (.long q2), .second, .val (.long q3), .second, .unset] [])) _
      refine XS.aloadN X0.here hx rfl (hb hby d7_0) rfl rfl ?_
      show Steps p.tables e below (s₁.setTop (mkF m 1 #[.val (.ref a1), .val (.long q2), .second, .val (.long q3), .second, .unset] [(.ref a1)])) _
      refine XS.lloadN X0.here hx rfl (hb hby d7_1) rfl ?_
      show Steps p.tables e below (s₁.setTop (mkF m 2 #[.val (.ref a1), .val (.long q2), .second, .val (.long q3), .second, .unset] [(.long q2), (.ref a1)])) _
      refine st1 _ ?_
      show Steps p.tables e below (T1.setTop (mkF m 5 #[.val (.ref a1), .val (.long q2), .second, .val (.long q3), .second, .unset] [(.long q2), (.ref a1)])) _
      refine st2.trans ?_
      show Steps p.tables e below (T2.setTop (mkF m 8 #[.val (.ref a1), .val (.long q2), .second, .val (.long q3), .second, .unset] [(.int (own_p i2))])) _
      refine XS.istore X2.here hx rfl (hb hby d7_8) rfl (l' := #[.val (.ref a1), .val (.long q2), .second, .val (.long q3), .second, .val (.int (own_p i2))]) rfl ?_
      show Steps p.tables e below (T2.setTop (mkF m 10 #[.val (.ref a1), .val (.long q2), .second, .val (.long q3), .second, .val (.int (own_p i2))] [])) _
      refine XS.aloadN X2.here hx rfl (hb hby d7_10) rfl rfl ?_
      show Steps p.tables e below (T2.setTop (mkF m 11 #[.val (.ref a1), .val (.long q2), .second, .val (.long q3), .second, .val (.int (own_p i2))] [(.ref a1)])) _
      refine st3 _ ?_
      show Steps p.tables e below (T3.setTop (mkF m 14 #[.val (.ref a1), .val (.long q2), .second, .val (.long q3), .second, .val (.int (own_p i2))] [(.ref a)])) _
      refine XS.iload X3.here hx rfl (hb hby d7_14) rfl ?_
      show Steps p.tables e below (T3.setTop (mkF m 16 #[.val (.ref a1), .val (.long q2), .second, .val (.long q3), .second, .val (.int (own_p i2))] [(.int (own_p i2)), (.ref a)])) _
      refine X3.laload hx (j := (own_p i2)) (v := (.long (own_K arr i2))) (by rw [e3]; exact Ar4.1) (State.isArrayOf_alike hZ.alike Ar4.2.1) Ar4.2.2 hin5 hat5 (g := (mkF m 16 #[.val (.ref a1), .val (.long q2), .second, .val (.long q3), .second, .val (.int (own_p i2))] [(.int (own_p i2)), (.ref a)])) rfl rfl (hb hby d7_16) _ ?_
      show Steps p.tables e below (T3.setTop (mkF m 17 #[.val (.ref a1), .val (.long q2), .second, .val (.long q3), .second, .val (.int (own_p i2))] [(.long (own_K arr i2))])) _
      refine XS.lloadN X3.here hx rfl (hb hby d7_17) rfl ?_
      show Steps p.tables e below (T3.setTop (mkF m 18 #[.val (.ref a1), .val (.long q2), .second, .val (.long q3), .second, .val (.int (own_p i2))] [(.long q2), (.long (own_K arr i2))])) _
      refine XS.lcmp X3.here hx rfl (hb hby d7_18) rfl ?_
      show Steps p.tables e below (T3.setTop (mkF m 19 #[.val (.ref a1), .val (.long q2), .second, .val (.long q3), .second, .val (.int (own_p i2))] [(.int (lcmpW (own_K arr i2) q2))])) _
      refine XS.ifNo X3.here hx rfl (hb hby d7_19) rfl ((if0 _ _).trans (teq (own_lceq hc19)).2) ?_
      show Steps p.tables e below (T3.setTop (mkF m 22 #[.val (.ref a1), .val (.long q2), .second, .val (.long q3), .second, .val (.int (own_p i2))] [])) _
      refine XS.aloadN X3.here hx rfl (hb hby d7_22) rfl rfl ?_
      show Steps p.tables e below (T3.setTop (mkF m 23 #[.val (.ref a1), .val (.long q2), .second, .val (.long q3), .second, .val (.int (own_p i2))] [(.ref a1)])) _
      refine st6 _ ?_
      show Steps p.tables e below (T6.setTop (mkF m 26 #[.val (.ref a1), .val (.long q2), .second, .val (.long q3), .second, .val (.int (own_p i2))] [(.ref a)])) _
      refine XS.iload X6.here hx rfl (hb hby d7_26) rfl ?_
      show Steps p.tables e below (T6.setTop (mkF m 28 #[.val (.ref a1), .val (.long q2), .second, .val (.long q3), .second, .val (.int (own_p i2))] [(.int (own_p i2)), (.ref a)])) _
      refine XS.iconst X6.here hx rfl (hb hby d7_28) ?_
      show Steps p.tables e below (T6.setTop (mkF m 29 #[.val (.ref a1), .val (.long q2), .second, .val (.long q3), .second, .val (.int (own_p i2))] [(.int (1 : Int32)), (.int (own_p i2)), (.ref a)])) _
      refine XS.iadd X6.here hx rfl (hb hby d7_29) rfl ?_
      show Steps p.tables e below (T6.setTop (mkF m 30 #[.val (.ref a1), .val (.long q2), .second, .val (.long q3), .second, .val (.int (own_p i2))] [(.int ((own_p i2) + (1 : Int32))), (.ref a)])) _
      refine XS.aloadN X6.here hx rfl (hb hby d7_30) rfl rfl ?_
      show Steps p.tables e below (T6.setTop (mkF m 31 #[.val (.ref a1), .val (.long q2), .second, .val (.long q3), .second, .val (.int (own_p i2))] [(.ref a1), (.int ((own_p i2) + (1 : Int32))), (.ref a)])) _
      refine st7 _ ?_
      show Steps p.tables e below (T7.setTop (mkF m 34 #[.val (.ref a1), .val (.long q2), .second, .val (.long q3), .second, .val (.int (own_p i2))] [(.ref a), (.int ((own_p i2) + (1 : Int32))), (.ref a)])) _
      refine XS.iload X7.here hx rfl (hb hby d7_34) rfl ?_
      show Steps p.tables e below (T7.setTop (mkF m 36 #[.val (.ref a1), .val (.long q2), .second, .val (.long q3), .second, .val (.int (own_p i2))] [(.int (own_p i2)), (.ref a), (.int ((own_p i2) + (1 : Int32))), (.ref a)])) _
      refine XS.iconst X7.here hx rfl (hb hby d7_36) ?_
      show Steps p.tables e below (T7.setTop (mkF m 37 #[.val (.ref a1), .val (.long q2), .second, .val (.long q3), .second, .val (.int (own_p i2))] [(.int (1 : Int32)), (.int (own_p i2)), (.ref a), (.int ((own_p i2) + (1 : Int32))), (.ref a)])) _
      refine XS.iadd X7.here hx rfl (hb hby d7_37) rfl ?_
      show Steps p.tables e below (T7.setTop (mkF m 38 #[.val (.ref a1), .val (.long q2), .second, .val (.long q3), .second, .val (.int (own_p i2))] [(.int ((own_p i2) + (1 : Int32))), (.ref a), (.int ((own_p i2) + (1 : Int32))), (.ref a)])) _
      refine X7.laload hx (j := ((own_p i2) + (1 : Int32))) (v := (.long (own_W arr i2))) (by rw [e7]; exact Ar8.1) (State.isArrayOf_alike hZ.alike Ar8.2.1) Ar8.2.2 hin9 hat9 (g := (mkF m 38 #[.val (.ref a1), .val (.long q2), .second, .val (.long q3), .second, .val (.int (own_p i2))] [(.int ((own_p i2) + (1 : Int32))), (.ref a), (.int ((own_p i2) + (1 : Int32))), (.ref a)])) rfl rfl (hb hby d7_38) _ ?_
      show Steps p.tables e below (T7.setTop (mkF m 39 #[.val (.ref a1), .val (.long q2), .second, .val (.long q3), .second, .val (.int (own_p i2))] [(.long (own_W arr i2)), (.int ((own_p i2) + (1 : Int32))), (.ref a)])) _
      refine XS.lloadN X7.here hx rfl (hb hby d7_39) rfl ?_
      show Steps p.tables e below (T7.setTop (mkF m 40 #[.val (.ref a1), .val (.long q2), .second, .val (.long q3), .second, .val (.int (own_p i2))] [(.long q3), (.long (own_W arr i2)), (.int ((own_p i2) + (1 : Int32))), (.ref a)])) _
      refine st10 _ ?_
      show Steps p.tables e below (T10.setTop (mkF m 43 #[.val (.ref a1), .val (.long q2), .second, .val (.long q3), .second, .val (.int (own_p i2))] [(.long (own_W arr i2 + q3)), (.int ((own_p i2) + (1 : Int32))), (.ref a)])) _
      refine st12 _ ?_
      show Steps p.tables e below (T12.setTop (mkF m 44 #[.val (.ref a1), .val (.long q2), .second, .val (.long q3), .second, .val (.int (own_p i2))] [])) _
      exact X12.returnOut hx Bd.returns (hb hby d7_44) hr
    · show QrmA Z a1 q2 q3 a k arr D mm sz so h0 n0 _ T12.heap _
      have f13 := (E.wr W12)
      have f14 := (FS.other W12 (Or.inl hne))
      have f15 := (FH.other W12 (Or.inl hne))
      have f16 := (FZ.other W12 (Or.inl hne))
      have f17 := (FQ.other W12 (Or.inl hne))
      rw [e12]
      have rp := own_repW (v := q3) hlen Rp hi2 hk hc19
      exact ⟨rfl, N12, Z12, 4, sz, so, _, _, fun _ => Iff.rfl, fun _ => rfl, ⟨a, k, _, 62, Or.inl ⟨rfl, rfl⟩, ga, f13, f14, f15, f16, f17, V12, by rw [List.length_set]; exact hlen, rp.2⟩, Or.inl ⟨rfl, hsz⟩, by omega, fun _ => ⟨rfl, rfl⟩, fun q => absurd rp.1 q⟩
  · obtain ⟨T18, X18, e18, st18⟩ := getF X3 hx hZ hown (host := "") (Or.inl (hw _ (List.mem_of_getElem? (i := 19) rfl))) Via.refl e3 FS (g := (mkF m 46 #[.val (.ref a1), .val (.long q2), .second, .val (.long q3), .second, .val (.int (own_p i2))] [(.ref a1)])) rfl rfl (hb hby d7_46)
    obtain ⟨cl19, Ar19, qk19, Sz19, Nn19, Hh19, Gg19⟩ := id (AV)
    have hin20 : ¬ ((own_p i2) < 0 ∨ cl19.slots.size ≤ ((own_p i2)).toNatClampNeg) := inb_of Sz19 ⟨own_p0 (own_lt8 hi2 (Or.inl rfl : 4 = 4 ∨ 4 = 8)), own_plt hi2 (Or.inl rfl : 4 = 4 ∨ 4 = 8)⟩
    obtain ⟨T20, h20, X20, e20, W20, st20⟩ := stJ X18 hx hZ e18 Ar19 (j := (own_p i2)) hin20 (g := (mkF m 52 #[.val (.ref a1), .val (.long q2), .second, .val (.long q3), .second, .val (.int (own_p i2))] [(.long q2), (.int (own_p i2)), (.ref a)])) rfl rfl (hb hby d7_52)
    have N20 := Fr.snoc X20 N2 ga
    have Z20 : n0 ≤ h20.size := by rw [W20.size]; exact Z0
    have V20 : Arv Z h20 a k .long (8 : Int32) ((arr.set (2 * i2) q2).map Value.long) (.long (0 : Int64)) := by
      have q := Arv.set Ar19 qk19 Sz19 Nn19 Hh19 Gg19 rfl W20 (2 * i2) (own_pN (own_lt8 hi2 (Or.inl rfl : 4 = 4 ∨ 4 = 8))) (by rw [List.length_map, hlen]; omega)
      rw [List.map_set]; exact q
    have f21 := (FS.other W20 (Or.inl hne))
    obtain ⟨T22, X22, e22, st22⟩ := getF X20 hx hZ hown (host := "") (Or.inl (hw _ (List.mem_of_getElem? (i := 19) rfl))) Via.refl e20 f21 (g := (mkF m 54 #[.val (.ref a1), .val (.long q2), .second, .val (.long q3), .second, .val (.int (own_p i2))] [(.ref a1)])) rfl rfl (hb hby d7_54)
    obtain ⟨cl23, Ar23, qk23, Sz23, Nn23, Hh23, Gg23⟩ := id (V20)
    have hin24 : ¬ (((own_p i2) + (1 : Int32)) < 0 ∨ cl23.slots.size ≤ (((own_p i2) + (1 : Int32))).toNatClampNeg) := inb_of Sz23 ⟨own_q0 (own_lt8 hi2 (Or.inl rfl : 4 = 4 ∨ 4 = 8)), own_qlt hi2 (Or.inl rfl : 4 = 4 ∨ 4 = 8)⟩
    obtain ⟨T24, h24, X24, e24, W24, st24⟩ := stJ X22 hx hZ e22 Ar23 (j := ((own_p i2) + (1 : Int32))) hin24 (g := (mkF m 62 #[.val (.ref a1), .val (.long q2), .second, .val (.long q3), .second, .val (.int (own_p i2))] [(.long q3), (.int ((own_p i2) + (1 : Int32))), (.ref a)])) rfl rfl (hb hby d7_62)
    have N24 := Fr.snoc X24 N20 ga
    have Z24 : n0 ≤ h24.size := by rw [W24.size]; exact Z20
    have V24 : Arv Z h24 a k .long (8 : Int32) (((arr.set (2 * i2) q2).set (2 * i2 + 1) q3).map Value.long) (.long (0 : Int64)) := by
      have q := Arv.set Ar23 qk23 Sz23 Nn23 Hh23 Gg23 rfl W24 (2 * i2 + 1) (own_qN (own_lt8 hi2 (Or.inl rfl : 4 = 4 ∨ 4 = 8))) (by rw [List.length_map, List.length_set, hlen]; omega)
      rw [List.map_set]; exact q
    have f25 := ((E.wr W20).wr W24)
    have f26 := ((FQ.other W20 (Or.inl hne)).other W24 (Or.inl hne))
    obtain ⟨T27, h27, X27, e27, W27, st27⟩ := putF X24 hx hZ hown (host := "") (Or.inl (hw _ (List.mem_of_getElem? (i := 46) rfl))) Via.refl e24 f26 f25 (Or.inl (hw _ (List.mem_of_getElem? (i := 47) rfl))) (hw _ (List.mem_of_getElem? (i := 7) rfl)) (ty := (.array .long)) (by decide) rfl rfl (g := (mkF m 65 #[.val (.ref a1), .val (.long q2), .second, .val (.long q3), .second, .val (.int (own_p i2))] [.null, (.ref a1)])) rfl rfl (hb hby d7_65)
    have N27 := Fr.snoc X27 N24 ga1
    have Z27 : n0 ≤ h27.size := by rw [W27.size]; exact Z24
    have Fw27 := f26.same W27
    have f28 := (((FZ.other W20 (Or.inl hne)).other W24 (Or.inl hne)).other W27 (Or.inr (slot_ne (Or.inl (hw _ (List.mem_of_getElem? (i := 49) rfl))) (Or.inl (hw _ (List.mem_of_getElem? (i := 47) rfl))) (by decide) (t := .int) (t' := (.array .long)) (by decide) (by decide))))
    obtain ⟨T29, X29, e29, st29⟩ := getF X27 hx hZ hown (host := "") (Or.inl (hw _ (List.mem_of_getElem? (i := 48) rfl))) Via.refl e27 f28 (g := (mkF m 70 #[.val (.ref a1), .val (.long q2), .second, .val (.long q3), .second, .val (.int (own_p i2))] [(.ref a1), (.ref a1)])) rfl rfl (hb hby d7_70)
    have f30 := (f25.wr W27)
    obtain ⟨T31, h31, X31, e31, W31, st31⟩ := putF X29 hx hZ hown (host := "") (Or.inl (hw _ (List.mem_of_getElem? (i := 48) rfl))) Via.refl e29 f28 f30 (Or.inl (hw _ (List.mem_of_getElem? (i := 49) rfl))) (hw _ (List.mem_of_getElem? (i := 7) rfl)) (ty := .int) (by decide) rfl rfl (g := (mkF m 76 #[.val (.ref a1), .val (.long q2), .second, .val (.long q3), .second, .val (.int (own_p i2))] [(.int ((Int32.ofNat sz) + (1 : Int32))), (.ref a1), (.int ((Int32.ofNat sz) + (1 : Int32)))])) rfl rfl (hb hby d7_76)
    have N31 := Fr.snoc X31 N27 ga1
    have Z31 : n0 ≤ h31.size := by rw [W31.size]; exact Z27
    have Fw31 := f28.same W31
    have f32 := (((f21.other W24 (Or.inl hne)).other W27 (Or.inr (slot_ne (Or.inl (hw _ (List.mem_of_getElem? (i := 20) rfl))) (Or.inl (hw _ (List.mem_of_getElem? (i := 47) rfl))) (by decide) (t := (.array .long)) (t' := (.array .long)) (by decide) (by decide)))).other W31 (Or.inr (slot_ne (Or.inl (hw _ (List.mem_of_getElem? (i := 20) rfl))) (Or.inl (hw _ (List.mem_of_getElem? (i := 49) rfl))) (by decide) (t := (.array .long)) (t' := .int) (by decide) (by decide))))
    obtain ⟨T33, X33, e33, st33⟩ := getF X31 hx hZ hown (host := "") (Or.inl (hw _ (List.mem_of_getElem? (i := 19) rfl))) Via.refl e31 f32 (g := (mkF m 80 #[.val (.ref a1), .val (.long q2), .second, .val (.long q3), .second, .val (.int (own_p i2))] [(.ref a1), (.int ((Int32.ofNat sz) + (1 : Int32)))])) rfl rfl (hb hby d7_80)
    have f34 := ((V24.other W27 (Ne.symm hne)).other W31 (Ne.symm hne))
    obtain ⟨cl35, Ar35, qk35, Sz35, Nn35, Hh35, Gg35⟩ := id (f34)
    by_cases hc86 : (2 : Int32) < ((Int32.ofNat sz) + (1 : Int32))
    · obtain ⟨T36, X36, e36, st36⟩ := getF X33 hx hZ hown (host := "") (Or.inl (hw _ (List.mem_of_getElem? (i := 19) rfl))) Via.refl e33 f32 (g := (mkF m 91 #[.val (.ref a1), .val (.long q2), .second, .val (.long q3), .second, .val (.int (own_p i2))] [(.ref a1), (.ref a1)])) rfl rfl (hb hby d7_91)
      obtain ⟨cl37, Ar37, qk37, Sz37, Nn37, Hh37, Gg37⟩ := id (f34)
      have rp := own_repK (v := q3) hlen Rp hi2 hk P2 hc19
      have s2 := own_sz2 hsz hc86
      have f39 := (f30.wr W31)
      have f40 := ((((FH.other W20 (Or.inl hne)).other W24 (Or.inl hne)).other W27 (Or.inr (slot_ne (Or.inl (hw _ (List.mem_of_getElem? (i := 32) rfl))) (Or.inl (hw _ (List.mem_of_getElem? (i := 47) rfl))) (by decide) (t := .int) (t' := (.array .long)) (by decide) (by decide)))).other W31 (Or.inr (slot_ne (Or.inl (hw _ (List.mem_of_getElem? (i := 32) rfl))) (Or.inl (hw _ (List.mem_of_getElem? (i := 49) rfl))) (by decide) (t := .int) (t' := .int) (by decide) (by decide))))
      have f41 := (Fw27.other W31 (Or.inr (slot_ne (Or.inl (hw _ (List.mem_of_getElem? (i := 47) rfl))) (Or.inl (hw _ (List.mem_of_getElem? (i := 49) rfl))) (by decide) (t := (.array .long)) (t' := .int) (by decide) (by decide))))
      obtain ⟨cq38, qq38, qq38'⟩ := f39.cell
      obtain ⟨_, _, ⟨T38, L38, k38, n38⟩, -, X38, ⟨Lc38, hQ38, l38, y38, z38⟩, st38⟩ := X36.privateBack hx (y := (⟨"com/example/pricewright/pricewright/core/LongSumTable", "resize", "(I)V"⟩ : MethodName)) hown (mvT hZ (hw _ (List.mem_of_getElem? (i := 58) rfl))) (mvT hZ (hw _ (List.mem_of_getElem? (i := 59) rfl))) (own_selpriv (mvT hZ (hw _ (List.mem_of_getElem? (i := 7) rfl))) (Cond.privateMethod_at (mvP hZ (hw _ (List.mem_of_getElem? (i := 60) rfl)) (args := #[]))) (mvT hZ (hw _ (List.mem_of_getElem? (i := 59) rfl))) (by decide)) (Cond.privateMethod_at (mvP hZ (hw _ (List.mem_of_getElem? (i := 60) rfl)) (args := #[]))) (mvT hZ (hw _ (List.mem_of_getElem? (i := 61) rfl))) (by decide) (backOf (W := 0) (rmR l Z a0 hw [] a1 a k (((arr.set (2 * i2) q2).set (2 * i2 + 1) q3)) (Int32.ofNat sz + 1) (fun x => D x ∨ x = q2) (fun x => if x = q2 then mm q2 + q3 else mm x) (sz + 1) h31 n0 Z31 f39 f32 f40 Fw31 f41 f34 (by rw [List.length_set, List.length_set]; exact hlen) hne ga1 ga rp.2) hZ (hw _ (List.mem_of_getElem? (i := 61) rfl)) (hw _ (List.mem_of_getElem? (i := 8) rfl)) (by decide) (by decide)) (g := (mkF m 95 #[.val (.ref a1), .val (.long q2), .second, .val (.long q3), .second, .val (.int (own_p i2))] [(.int (8 : Int32)), (.ref a1)])) rfl (by rw [hml]; rfl) (Steps.refl _) (a := a1) (by rw [e36]; exact qq38) qq38' (argsL := [(.int (8 : Int32))]) (rest := []) (lenOf pd_2 rfl) rfl (by show 2 * 0 + _ ≤ _; exact Nat.le_of_eq rfl) (hb hby d7_95) (fun _ _ => ⟨rfl, e36, (by decide : 0 + 2 ≤ _), (by decide : 0 + 20 ≤ _)⟩)
      dsimp only [Pt.U, Pt.locs, Pt.cells, Pt.slots] at X38 l38 y38 z38 st38 hQ38
      subst l38 y38 z38
      obtain ⟨rfl, N38q, Z38, a', k', arr', ga', E', FS', FH', FZ', FQ', AV', hl', rp'⟩ := hQ38
      have N38 := Fr.app N31 N38q
      obtain ⟨fs, hr, hrun, hended, hW, hsame⟩ := X38.leave (v := none) (fun _ => rfl)
      refine ⟨_, _, pre0 _ ?_, hrun, hended, _, _, rfl, ?_, ⟨_, rfl⟩, hW, hsame.mono (by decide) (by decide)⟩
      · show Steps p.tables e below (s₁.setTop (mkF m 0 #[.val (.ref a1), .val (.long q2), .second, .val (.long q3), .second, .unset] [])) _
        refine XS.aloadN X0.here hx rfl (hb hby d7_0) rfl rfl ?_
        show Steps p.tables e below (s₁.setTop (mkF m 1 #[.val (.ref a1), .val (.long q2), .second, .val (.long q3), .second, .unset] [(.ref a1)])) _
        refine XS.lloadN X0.here hx rfl (hb hby d7_1) rfl ?_
        show Steps p.tables e below (s₁.setTop (mkF m 2 #[.val (.ref a1), .val (.long q2), .second, .val (.long q3), .second, .unset] [(.long q2), (.ref a1)])) _
        refine st1 _ ?_
        show Steps p.tables e below (T1.setTop (mkF m 5 #[.val (.ref a1), .val (.long q2), .second, .val (.long q3), .second, .unset] [(.long q2), (.ref a1)])) _
        refine st2.trans ?_
        show Steps p.tables e below (T2.setTop (mkF m 8 #[.val (.ref a1), .val (.long q2), .second, .val (.long q3), .second, .unset] [(.int (own_p i2))])) _
        refine XS.istore X2.here hx rfl (hb hby d7_8) rfl (l' := #[.val (.ref a1), .val (.long q2), .second, .val (.long q3), .second, .val (.int (own_p i2))]) rfl ?_
        show Steps p.tables e below (T2.setTop (mkF m 10 #[.val (.ref a1), .val (.long q2), .second, .val (.long q3), .second, .val (.int (own_p i2))] [])) _
        refine XS.aloadN X2.here hx rfl (hb hby d7_10) rfl rfl ?_
        show Steps p.tables e below (T2.setTop (mkF m 11 #[.val (.ref a1), .val (.long q2), .second, .val (.long q3), .second, .val (.int (own_p i2))] [(.ref a1)])) _
        refine st3 _ ?_
        show Steps p.tables e below (T3.setTop (mkF m 14 #[.val (.ref a1), .val (.long q2), .second, .val (.long q3), .second, .val (.int (own_p i2))] [(.ref a)])) _
        refine XS.iload X3.here hx rfl (hb hby d7_14) rfl ?_
        show Steps p.tables e below (T3.setTop (mkF m 16 #[.val (.ref a1), .val (.long q2), .second, .val (.long q3), .second, .val (.int (own_p i2))] [(.int (own_p i2)), (.ref a)])) _
        refine X3.laload hx (j := (own_p i2)) (v := (.long (own_K arr i2))) (by rw [e3]; exact Ar4.1) (State.isArrayOf_alike hZ.alike Ar4.2.1) Ar4.2.2 hin5 hat5 (g := (mkF m 16 #[.val (.ref a1), .val (.long q2), .second, .val (.long q3), .second, .val (.int (own_p i2))] [(.int (own_p i2)), (.ref a)])) rfl rfl (hb hby d7_16) _ ?_
        show Steps p.tables e below (T3.setTop (mkF m 17 #[.val (.ref a1), .val (.long q2), .second, .val (.long q3), .second, .val (.int (own_p i2))] [(.long (own_K arr i2))])) _
        refine XS.lloadN X3.here hx rfl (hb hby d7_17) rfl ?_
        show Steps p.tables e below (T3.setTop (mkF m 18 #[.val (.ref a1), .val (.long q2), .second, .val (.long q3), .second, .val (.int (own_p i2))] [(.long q2), (.long (own_K arr i2))])) _
        refine XS.lcmp X3.here hx rfl (hb hby d7_18) rfl ?_
        show Steps p.tables e below (T3.setTop (mkF m 19 #[.val (.ref a1), .val (.long q2), .second, .val (.long q3), .second, .val (.int (own_p i2))] [(.int (lcmpW (own_K arr i2) q2))])) _
        refine XS.ifYes X3.here hx rfl (pc0 := 19) (pc' := 45) rfl (hb hby d7_19) rfl ((if0 _ _).trans (feq (own_lcne hc19)).2) (by decide) (by decide) ?_
        show Steps p.tables e below (T3.setTop (mkF m 45 #[.val (.ref a1), .val (.long q2), .second, .val (.long q3), .second, .val (.int (own_p i2))] [])) _
        refine XS.aloadN X3.here hx rfl (hb hby d7_45) rfl rfl ?_
        show Steps p.tables e below (T3.setTop (mkF m 46 #[.val (.ref a1), .val (.long q2), .second, .val (.long q3), .second, .val (.int (own_p i2))] [(.ref a1)])) _
        refine st18 _ ?_
        show Steps p.tables e below (T18.setTop (mkF m 49 #[.val (.ref a1), .val (.long q2), .second, .val (.long q3), .second, .val (.int (own_p i2))] [(.ref a)])) _
        refine XS.iload X18.here hx rfl (hb hby d7_49) rfl ?_
        show Steps p.tables e below (T18.setTop (mkF m 51 #[.val (.ref a1), .val (.long q2), .second, .val (.long q3), .second, .val (.int (own_p i2))] [(.int (own_p i2)), (.ref a)])) _
        refine XS.lloadN X18.here hx rfl (hb hby d7_51) rfl ?_
        show Steps p.tables e below (T18.setTop (mkF m 52 #[.val (.ref a1), .val (.long q2), .second, .val (.long q3), .second, .val (.int (own_p i2))] [(.long q2), (.int (own_p i2)), (.ref a)])) _
        refine st20 _ ?_
        show Steps p.tables e below (T20.setTop (mkF m 53 #[.val (.ref a1), .val (.long q2), .second, .val (.long q3), .second, .val (.int (own_p i2))] [])) _
        refine XS.aloadN X20.here hx rfl (hb hby d7_53) rfl rfl ?_
        show Steps p.tables e below (T20.setTop (mkF m 54 #[.val (.ref a1), .val (.long q2), .second, .val (.long q3), .second, .val (.int (own_p i2))] [(.ref a1)])) _
        refine st22 _ ?_
        show Steps p.tables e below (T22.setTop (mkF m 57 #[.val (.ref a1), .val (.long q2), .second, .val (.long q3), .second, .val (.int (own_p i2))] [(.ref a)])) _
        refine XS.iload X22.here hx rfl (hb hby d7_57) rfl ?_
        show Steps p.tables e below (T22.setTop (mkF m 59 #[.val (.ref a1), .val (.long q2), .second, .val (.long q3), .second, .val (.int (own_p i2))] [(.int (own_p i2)), (.ref a)])) _
        refine XS.iconst X22.here hx rfl (hb hby d7_59) ?_
        show Steps p.tables e below (T22.setTop (mkF m 60 #[.val (.ref a1), .val (.long q2), .second, .val (.long q3), .second, .val (.int (own_p i2))] [(.int (1 : Int32)), (.int (own_p i2)), (.ref a)])) _
        refine XS.iadd X22.here hx rfl (hb hby d7_60) rfl ?_
        show Steps p.tables e below (T22.setTop (mkF m 61 #[.val (.ref a1), .val (.long q2), .second, .val (.long q3), .second, .val (.int (own_p i2))] [(.int ((own_p i2) + (1 : Int32))), (.ref a)])) _
        refine XS.lloadN X22.here hx rfl (hb hby d7_61) rfl ?_
        show Steps p.tables e below (T22.setTop (mkF m 62 #[.val (.ref a1), .val (.long q2), .second, .val (.long q3), .second, .val (.int (own_p i2))] [(.long q3), (.int ((own_p i2) + (1 : Int32))), (.ref a)])) _
        refine st24 _ ?_
        show Steps p.tables e below (T24.setTop (mkF m 63 #[.val (.ref a1), .val (.long q2), .second, .val (.long q3), .second, .val (.int (own_p i2))] [])) _
        refine XS.aloadN X24.here hx rfl (hb hby d7_63) rfl rfl ?_
        show Steps p.tables e below (T24.setTop (mkF m 64 #[.val (.ref a1), .val (.long q2), .second, .val (.long q3), .second, .val (.int (own_p i2))] [(.ref a1)])) _
        refine XS.aconstNull X24.here hx rfl (hb hby d7_64) ?_
        show Steps p.tables e below (T24.setTop (mkF m 65 #[.val (.ref a1), .val (.long q2), .second, .val (.long q3), .second, .val (.int (own_p i2))] [.null, (.ref a1)])) _
        refine st27 _ ?_
        show Steps p.tables e below (T27.setTop (mkF m 68 #[.val (.ref a1), .val (.long q2), .second, .val (.long q3), .second, .val (.int (own_p i2))] [])) _
        refine XS.aloadN X27.here hx rfl (hb hby d7_68) rfl rfl ?_
        show Steps p.tables e below (T27.setTop (mkF m 69 #[.val (.ref a1), .val (.long q2), .second, .val (.long q3), .second, .val (.int (own_p i2))] [(.ref a1)])) _
        refine XS.dup X27.here hx rfl (hb hby d7_69) rfl rfl ?_
        show Steps p.tables e below (T27.setTop (mkF m 70 #[.val (.ref a1), .val (.long q2), .second, .val (.long q3), .second, .val (.int (own_p i2))] [(.ref a1), (.ref a1)])) _
        refine st29 _ ?_
        show Steps p.tables e below (T29.setTop (mkF m 73 #[.val (.ref a1), .val (.long q2), .second, .val (.long q3), .second, .val (.int (own_p i2))] [(.int (Int32.ofNat sz)), (.ref a1)])) _
        refine XS.iconst X29.here hx rfl (hb hby d7_73) ?_
        show Steps p.tables e below (T29.setTop (mkF m 74 #[.val (.ref a1), .val (.long q2), .second, .val (.long q3), .second, .val (.int (own_p i2))] [(.int (1 : Int32)), (.int (Int32.ofNat sz)), (.ref a1)])) _
        refine XS.iadd X29.here hx rfl (hb hby d7_74) rfl ?_
        show Steps p.tables e below (T29.setTop (mkF m 75 #[.val (.ref a1), .val (.long q2), .second, .val (.long q3), .second, .val (.int (own_p i2))] [(.int ((Int32.ofNat sz) + (1 : Int32))), (.ref a1)])) _
        refine XS.dupX1 X29.here hx rfl (hb hby d7_75) rfl rfl rfl ?_
        show Steps p.tables e below (T29.setTop (mkF m 76 #[.val (.ref a1), .val (.long q2), .second, .val (.long q3), .second, .val (.int (own_p i2))] [(.int ((Int32.ofNat sz) + (1 : Int32))), (.ref a1), (.int ((Int32.ofNat sz) + (1 : Int32)))])) _
        refine st31 _ ?_
        show Steps p.tables e below (T31.setTop (mkF m 79 #[.val (.ref a1), .val (.long q2), .second, .val (.long q3), .second, .val (.int (own_p i2))] [(.int ((Int32.ofNat sz) + (1 : Int32)))])) _
        refine XS.aloadN X31.here hx rfl (hb hby d7_79) rfl rfl ?_
        show Steps p.tables e below (T31.setTop (mkF m 80 #[.val (.ref a1), .val (.long q2), .second, .val (.long q3), .second, .val (.int (own_p i2))] [(.ref a1), (.int ((Int32.ofNat sz) + (1 : Int32)))])) _
        refine st33 _ ?_
        show Steps p.tables e below (T33.setTop (mkF m 83 #[.val (.ref a1), .val (.long q2), .second, .val (.long q3), .second, .val (.int (own_p i2))] [(.ref a), (.int ((Int32.ofNat sz) + (1 : Int32)))])) _
        refine X33.arraylength hx (by rw [e33]; exact Ar35.1) (State.isArrayOf_alike hZ.alike Ar35.2.1) (g := (mkF m 83 #[.val (.ref a1), .val (.long q2), .second, .val (.long q3), .second, .val (.int (own_p i2))] [(.ref a), (.int ((Int32.ofNat sz) + (1 : Int32)))])) rfl rfl (hb hby d7_83) _ ?_
        rw [len_of Sz35 Nn35]
        show Steps p.tables e below (T33.setTop (mkF m 84 #[.val (.ref a1), .val (.long q2), .second, .val (.long q3), .second, .val (.int (own_p i2))] [(.int (8 : Int32)), (.int ((Int32.ofNat sz) + (1 : Int32)))])) _
        refine XS.iconst X33.here hx rfl (hb hby d7_84) ?_
        show Steps p.tables e below (T33.setTop (mkF m 85 #[.val (.ref a1), .val (.long q2), .second, .val (.long q3), .second, .val (.int (own_p i2))] [(.int (4 : Int32)), (.int (8 : Int32)), (.int ((Int32.ofNat sz) + (1 : Int32)))])) _
        refine XS.idiv X33.here hx rfl (hb hby d7_85) rfl (by decide) ?_
        show Steps p.tables e below (T33.setTop (mkF m 86 #[.val (.ref a1), .val (.long q2), .second, .val (.long q3), .second, .val (.int (own_p i2))] [(.int (2 : Int32)), (.int ((Int32.ofNat sz) + (1 : Int32)))])) _
        refine XS.icmpNo X33.here hx rfl (hb hby d7_86) rfl (tlt hc86).2.2.2 ?_
        show Steps p.tables e below (T33.setTop (mkF m 89 #[.val (.ref a1), .val (.long q2), .second, .val (.long q3), .second, .val (.int (own_p i2))] [])) _
        refine XS.aloadN X33.here hx rfl (hb hby d7_89) rfl rfl ?_
        show Steps p.tables e below (T33.setTop (mkF m 90 #[.val (.ref a1), .val (.long q2), .second, .val (.long q3), .second, .val (.int (own_p i2))] [(.ref a1)])) _
        refine XS.aloadN X33.here hx rfl (hb hby d7_90) rfl rfl ?_
        show Steps p.tables e below (T33.setTop (mkF m 91 #[.val (.ref a1), .val (.long q2), .second, .val (.long q3), .second, .val (.int (own_p i2))] [(.ref a1), (.ref a1)])) _
        refine st36 _ ?_
        show Steps p.tables e below (T36.setTop (mkF m 94 #[.val (.ref a1), .val (.long q2), .second, .val (.long q3), .second, .val (.int (own_p i2))] [(.ref a), (.ref a1)])) _
        refine X36.arraylength hx (by rw [e36]; exact Ar37.1) (State.isArrayOf_alike hZ.alike Ar37.2.1) (g := (mkF m 94 #[.val (.ref a1), .val (.long q2), .second, .val (.long q3), .second, .val (.int (own_p i2))] [(.ref a), (.ref a1)])) rfl rfl (hb hby d7_94) _ ?_
        rw [len_of Sz37 Nn37]
        show Steps p.tables e below (T36.setTop (mkF m 95 #[.val (.ref a1), .val (.long q2), .second, .val (.long q3), .second, .val (.int (own_p i2))] [(.int (8 : Int32)), (.ref a1)])) _
        refine st38.trans ?_
        show Steps p.tables e below (T38.setTop (mkF m 98 #[.val (.ref a1), .val (.long q2), .second, .val (.long q3), .second, .val (.int (own_p i2))] [])) _
        exact X38.returnOut hx Bd.returns (hb hby d7_98) hr
      · show QrmA Z a1 q2 q3 a k arr D mm sz so h0 n0 _ T38.heap _
        exact ⟨rfl, N38, Z38, 8, sz + 1, .null, _, _, fun _ => Iff.rfl, fun _ => rfl, ⟨a', k', arr', 61, Or.inr ⟨rfl, rfl⟩, ga', E', FS', FH', by rw [← own_sz1 hsz]; exact FZ', FQ', AV', hl', rp'⟩, Or.inr ⟨rfl, by omega⟩, by omega, fun q => absurd q rp.1, fun _ => ⟨rfl, rfl⟩⟩
    · obtain ⟨fs, hr, hrun, hended, hW, hsame⟩ := X33.leave (v := none) (fun _ => rfl)
      refine ⟨_, _, pre0 _ ?_, hrun, hended, _, _, rfl, ?_, ⟨_, rfl⟩, hW, hsame.mono (by decide) (by decide)⟩
      · show Steps p.tables e below (s₁.setTop (mkF m 0 #[.val (.ref a1), .val (.long q2), .second, .val (.long q3), .second, .unset] [])) _
        refine XS.aloadN X0.here hx rfl (hb hby d7_0) rfl rfl ?_
        show Steps p.tables e below (s₁.setTop (mkF m 1 #[.val (.ref a1), .val (.long q2), .second, .val (.long q3), .second, .unset] [(.ref a1)])) _
        refine XS.lloadN X0.here hx rfl (hb hby d7_1) rfl ?_
        show Steps p.tables e below (s₁.setTop (mkF m 2 #[.val (.ref a1), .val (.long q2), .second, .val (.long q3), .second, .unset] [(.long q2), (.ref a1)])) _
        refine st1 _ ?_
        show Steps p.tables e below (T1.setTop (mkF m 5 #[.val (.ref a1), .val (.long q2), .second, .val (.long q3), .second, .unset] [(.long q2), (.ref a1)])) _
        refine st2.trans ?_
        show Steps p.tables e below (T2.setTop (mkF m 8 #[.val (.ref a1), .val (.long q2), .second, .val (.long q3), .second, .unset] [(.int (own_p i2))])) _
        refine XS.istore X2.here hx rfl (hb hby d7_8) rfl (l' := #[.val (.ref a1), .val (.long q2), .second, .val (.long q3), .second, .val (.int (own_p i2))]) rfl ?_
        show Steps p.tables e below (T2.setTop (mkF m 10 #[.val (.ref a1), .val (.long q2), .second, .val (.long q3), .second, .val (.int (own_p i2))] [])) _
        refine XS.aloadN X2.here hx rfl (hb hby d7_10) rfl rfl ?_
        show Steps p.tables e below (T2.setTop (mkF m 11 #[.val (.ref a1), .val (.long q2), .second, .val (.long q3), .second, .val (.int (own_p i2))] [(.ref a1)])) _
        refine st3 _ ?_
        show Steps p.tables e below (T3.setTop (mkF m 14 #[.val (.ref a1), .val (.long q2), .second, .val (.long q3), .second, .val (.int (own_p i2))] [(.ref a)])) _
        refine XS.iload X3.here hx rfl (hb hby d7_14) rfl ?_
        show Steps p.tables e below (T3.setTop (mkF m 16 #[.val (.ref a1), .val (.long q2), .second, .val (.long q3), .second, .val (.int (own_p i2))] [(.int (own_p i2)), (.ref a)])) _
        refine X3.laload hx (j := (own_p i2)) (v := (.long (own_K arr i2))) (by rw [e3]; exact Ar4.1) (State.isArrayOf_alike hZ.alike Ar4.2.1) Ar4.2.2 hin5 hat5 (g := (mkF m 16 #[.val (.ref a1), .val (.long q2), .second, .val (.long q3), .second, .val (.int (own_p i2))] [(.int (own_p i2)), (.ref a)])) rfl rfl (hb hby d7_16) _ ?_
        show Steps p.tables e below (T3.setTop (mkF m 17 #[.val (.ref a1), .val (.long q2), .second, .val (.long q3), .second, .val (.int (own_p i2))] [(.long (own_K arr i2))])) _
        refine XS.lloadN X3.here hx rfl (hb hby d7_17) rfl ?_
        show Steps p.tables e below (T3.setTop (mkF m 18 #[.val (.ref a1), .val (.long q2), .second, .val (.long q3), .second, .val (.int (own_p i2))] [(.long q2), (.long (own_K arr i2))])) _
        refine XS.lcmp X3.here hx rfl (hb hby d7_18) rfl ?_
        show Steps p.tables e below (T3.setTop (mkF m 19 #[.val (.ref a1), .val (.long q2), .second, .val (.long q3), .second, .val (.int (own_p i2))] [(.int (lcmpW (own_K arr i2) q2))])) _
        refine XS.ifYes X3.here hx rfl (pc0 := 19) (pc' := 45) rfl (hb hby d7_19) rfl ((if0 _ _).trans (feq (own_lcne hc19)).2) (by decide) (by decide) ?_
        show Steps p.tables e below (T3.setTop (mkF m 45 #[.val (.ref a1), .val (.long q2), .second, .val (.long q3), .second, .val (.int (own_p i2))] [])) _
        refine XS.aloadN X3.here hx rfl (hb hby d7_45) rfl rfl ?_
        show Steps p.tables e below (T3.setTop (mkF m 46 #[.val (.ref a1), .val (.long q2), .second, .val (.long q3), .second, .val (.int (own_p i2))] [(.ref a1)])) _
        refine st18 _ ?_
        show Steps p.tables e below (T18.setTop (mkF m 49 #[.val (.ref a1), .val (.long q2), .second, .val (.long q3), .second, .val (.int (own_p i2))] [(.ref a)])) _
        refine XS.iload X18.here hx rfl (hb hby d7_49) rfl ?_
        show Steps p.tables e below (T18.setTop (mkF m 51 #[.val (.ref a1), .val (.long q2), .second, .val (.long q3), .second, .val (.int (own_p i2))] [(.int (own_p i2)), (.ref a)])) _
        refine XS.lloadN X18.here hx rfl (hb hby d7_51) rfl ?_
        show Steps p.tables e below (T18.setTop (mkF m 52 #[.val (.ref a1), .val (.long q2), .second, .val (.long q3), .second, .val (.int (own_p i2))] [(.long q2), (.int (own_p i2)), (.ref a)])) _
        refine st20 _ ?_
        show Steps p.tables e below (T20.setTop (mkF m 53 #[.val (.ref a1), .val (.long q2), .second, .val (.long q3), .second, .val (.int (own_p i2))] [])) _
        refine XS.aloadN X20.here hx rfl (hb hby d7_53) rfl rfl ?_
        show Steps p.tables e below (T20.setTop (mkF m 54 #[.val (.ref a1), .val (.long q2), .second, .val (.long q3), .second, .val (.int (own_p i2))] [(.ref a1)])) _
        refine st22 _ ?_
        show Steps p.tables e below (T22.setTop (mkF m 57 #[.val (.ref a1), .val (.long q2), .second, .val (.long q3), .second, .val (.int (own_p i2))] [(.ref a)])) _
        refine XS.iload X22.here hx rfl (hb hby d7_57) rfl ?_
        show Steps p.tables e below (T22.setTop (mkF m 59 #[.val (.ref a1), .val (.long q2), .second, .val (.long q3), .second, .val (.int (own_p i2))] [(.int (own_p i2)), (.ref a)])) _
        refine XS.iconst X22.here hx rfl (hb hby d7_59) ?_
        show Steps p.tables e below (T22.setTop (mkF m 60 #[.val (.ref a1), .val (.long q2), .second, .val (.long q3), .second, .val (.int (own_p i2))] [(.int (1 : Int32)), (.int (own_p i2)), (.ref a)])) _
        refine XS.iadd X22.here hx rfl (hb hby d7_60) rfl ?_
        show Steps p.tables e below (T22.setTop (mkF m 61 #[.val (.ref a1), .val (.long q2), .second, .val (.long q3), .second, .val (.int (own_p i2))] [(.int ((own_p i2) + (1 : Int32))), (.ref a)])) _
        refine XS.lloadN X22.here hx rfl (hb hby d7_61) rfl ?_
        show Steps p.tables e below (T22.setTop (mkF m 62 #[.val (.ref a1), .val (.long q2), .second, .val (.long q3), .second, .val (.int (own_p i2))] [(.long q3), (.int ((own_p i2) + (1 : Int32))), (.ref a)])) _
        refine st24 _ ?_
        show Steps p.tables e below (T24.setTop (mkF m 63 #[.val (.ref a1), .val (.long q2), .second, .val (.long q3), .second, .val (.int (own_p i2))] [])) _
        refine XS.aloadN X24.here hx rfl (hb hby d7_63) rfl rfl ?_
        show Steps p.tables e below (T24.setTop (mkF m 64 #[.val (.ref a1), .val (.long q2), .second, .val (.long q3), .second, .val (.int (own_p i2))] [(.ref a1)])) _
        refine XS.aconstNull X24.here hx rfl (hb hby d7_64) ?_
        show Steps p.tables e below (T24.setTop (mkF m 65 #[.val (.ref a1), .val (.long q2), .second, .val (.long q3), .second, .val (.int (own_p i2))] [.null, (.ref a1)])) _
        refine st27 _ ?_
        show Steps p.tables e below (T27.setTop (mkF m 68 #[.val (.ref a1), .val (.long q2), .second, .val (.long q3), .second, .val (.int (own_p i2))] [])) _
        refine XS.aloadN X27.here hx rfl (hb hby d7_68) rfl rfl ?_
        show Steps p.tables e below (T27.setTop (mkF m 69 #[.val (.ref a1), .val (.long q2), .second, .val (.long q3), .second, .val (.int (own_p i2))] [(.ref a1)])) _
        refine XS.dup X27.here hx rfl (hb hby d7_69) rfl rfl ?_
        show Steps p.tables e below (T27.setTop (mkF m 70 #[.val (.ref a1), .val (.long q2), .second, .val (.long q3), .second, .val (.int (own_p i2))] [(.ref a1), (.ref a1)])) _
        refine st29 _ ?_
        show Steps p.tables e below (T29.setTop (mkF m 73 #[.val (.ref a1), .val (.long q2), .second, .val (.long q3), .second, .val (.int (own_p i2))] [(.int (Int32.ofNat sz)), (.ref a1)])) _
        refine XS.iconst X29.here hx rfl (hb hby d7_73) ?_
        show Steps p.tables e below (T29.setTop (mkF m 74 #[.val (.ref a1), .val (.long q2), .second, .val (.long q3), .second, .val (.int (own_p i2))] [(.int (1 : Int32)), (.int (Int32.ofNat sz)), (.ref a1)])) _
        refine XS.iadd X29.here hx rfl (hb hby d7_74) rfl ?_
        show Steps p.tables e below (T29.setTop (mkF m 75 #[.val (.ref a1), .val (.long q2), .second, .val (.long q3), .second, .val (.int (own_p i2))] [(.int ((Int32.ofNat sz) + (1 : Int32))), (.ref a1)])) _
        refine XS.dupX1 X29.here hx rfl (hb hby d7_75) rfl rfl rfl ?_
        show Steps p.tables e below (T29.setTop (mkF m 76 #[.val (.ref a1), .val (.long q2), .second, .val (.long q3), .second, .val (.int (own_p i2))] [(.int ((Int32.ofNat sz) + (1 : Int32))), (.ref a1), (.int ((Int32.ofNat sz) + (1 : Int32)))])) _
        refine st31 _ ?_
        show Steps p.tables e below (T31.setTop (mkF m 79 #[.val (.ref a1), .val (.long q2), .second, .val (.long q3), .second, .val (.int (own_p i2))] [(.int ((Int32.ofNat sz) + (1 : Int32)))])) _
        refine XS.aloadN X31.here hx rfl (hb hby d7_79) rfl rfl ?_
        show Steps p.tables e below (T31.setTop (mkF m 80 #[.val (.ref a1), .val (.long q2), .second, .val (.long q3), .second, .val (.int (own_p i2))] [(.ref a1), (.int ((Int32.ofNat sz) + (1 : Int32)))])) _
        refine st33 _ ?_
        show Steps p.tables e below (T33.setTop (mkF m 83 #[.val (.ref a1), .val (.long q2), .second, .val (.long q3), .second, .val (.int (own_p i2))] [(.ref a), (.int ((Int32.ofNat sz) + (1 : Int32)))])) _
        refine X33.arraylength hx (by rw [e33]; exact Ar35.1) (State.isArrayOf_alike hZ.alike Ar35.2.1) (g := (mkF m 83 #[.val (.ref a1), .val (.long q2), .second, .val (.long q3), .second, .val (.int (own_p i2))] [(.ref a), (.int ((Int32.ofNat sz) + (1 : Int32)))])) rfl rfl (hb hby d7_83) _ ?_
        rw [len_of Sz35 Nn35]
        show Steps p.tables e below (T33.setTop (mkF m 84 #[.val (.ref a1), .val (.long q2), .second, .val (.long q3), .second, .val (.int (own_p i2))] [(.int (8 : Int32)), (.int ((Int32.ofNat sz) + (1 : Int32)))])) _
        refine XS.iconst X33.here hx rfl (hb hby d7_84) ?_
        show Steps p.tables e below (T33.setTop (mkF m 85 #[.val (.ref a1), .val (.long q2), .second, .val (.long q3), .second, .val (.int (own_p i2))] [(.int (4 : Int32)), (.int (8 : Int32)), (.int ((Int32.ofNat sz) + (1 : Int32)))])) _
        refine XS.idiv X33.here hx rfl (hb hby d7_85) rfl (by decide) ?_
        show Steps p.tables e below (T33.setTop (mkF m 86 #[.val (.ref a1), .val (.long q2), .second, .val (.long q3), .second, .val (.int (own_p i2))] [(.int (2 : Int32)), (.int ((Int32.ofNat sz) + (1 : Int32)))])) _
        refine XS.icmpYes X33.here hx rfl (pc0 := 86) (pc' := 98) rfl (hb hby d7_86) rfl (flt hc86).2.2.2 (by decide) (by decide) ?_
        show Steps p.tables e below (T33.setTop (mkF m 98 #[.val (.ref a1), .val (.long q2), .second, .val (.long q3), .second, .val (.int (own_p i2))] [])) _
        exact X33.returnOut hx Bd.returns (hb hby d7_98) hr
      · show QrmA Z a1 q2 q3 a k arr D mm sz so h0 n0 _ T33.heap _
        have f42 := (f30.wr W31)
        have f43 := ((((FH.other W20 (Or.inl hne)).other W24 (Or.inl hne)).other W27 (Or.inr (slot_ne (Or.inl (hw _ (List.mem_of_getElem? (i := 32) rfl))) (Or.inl (hw _ (List.mem_of_getElem? (i := 47) rfl))) (by decide) (t := .int) (t' := (.array .long)) (by decide) (by decide)))).other W31 (Or.inr (slot_ne (Or.inl (hw _ (List.mem_of_getElem? (i := 32) rfl))) (Or.inl (hw _ (List.mem_of_getElem? (i := 49) rfl))) (by decide) (t := .int) (t' := .int) (by decide) (by decide))))
        have f44 := (Fw27.other W31 (Or.inr (slot_ne (Or.inl (hw _ (List.mem_of_getElem? (i := 47) rfl))) (Or.inl (hw _ (List.mem_of_getElem? (i := 49) rfl))) (by decide) (t := (.array .long)) (t' := .int) (by decide) (by decide))))
        rw [e33]
        have rp := own_repK (v := q3) hlen Rp hi2 hk P2 hc19
        have s1 := own_sz3 hsz hc86
        exact ⟨rfl, N31, Z31, 4, sz + 1, .null, _, _, fun _ => Iff.rfl, fun _ => rfl, ⟨a, k, _, 62, Or.inl ⟨rfl, rfl⟩, ga, f42, f32, f43, by rw [← own_sz1 hsz]; exact Fw31, f44, f34, by rw [List.length_set, List.length_set]; exact hlen, rp.2⟩, Or.inl ⟨rfl, by omega⟩, by omega, fun q => absurd q rp.1, fun _ => ⟨rfl, rfl⟩⟩
theorem own_ovf {a b : Int64} (h1 : -9223372036854775808 ≤ a.toInt + b.toInt) (h2 : a.toInt + b.toInt < 9223372036854775808) : ¬ ((a ^^^ (a + b)) &&& (b ^^^ (a + b))) < (0 : Int64) := by
  have e := c_ladd a b
  have l1 := (a + b).toInt_lt; have l2 := (a + b).le_toInt
  have x := c_xorSL a (a + b); have y := c_xorSL b (a + b); have z := c_andSL (a ^^^ (a + b)) (b ^^^ (a + b))
  rw [Int64.lt_iff_toInt_lt, show (0 : Int64).toInt = 0 from rfl]
  intro q
  generalize (a ^^^ (a + b)).toInt = X at *
  generalize (b ^^^ (a + b)).toInt = Y at *
  generalize ((a ^^^ (a + b)) &&& (b ^^^ (a + b))).toInt = W at *
  generalize (a + b).toInt = S at *
  have z2 := z.2.1; have z3 := z.2.2
  by_cases p1 : 0 ≤ X
  · have := z2 p1; omega
  · by_cases p2 : 0 ≤ Y
    · have := z3 p2; omega
    · obtain ⟨x1, x2, x3, x4⟩ := x
      obtain ⟨y1, y2, y3, y4⟩ := y
      by_cases s0 : 0 ≤ S <;> by_cases a0 : 0 ≤ a.toInt <;> by_cases b0 : 0 ≤ b.toInt
      · exact p1 (x4 a0 s0)
      · exact p1 (x4 a0 s0)
      · exact p2 (y4 b0 s0)
      · omega
      · omega
      · exact p2 (y1 (by omega) (by omega))
      · exact p1 (x1 (by omega) (by omega))
      · exact p1 (x1 (by omega) (by omega))
theorem own_sh62 {sh : Int32} (h : (4 = 4 ∧ sh = 62) ∨ (4 = 8 ∧ sh = 61)) : sh = 62 := by
  rcases h with ⟨-, h⟩ | ⟨h, -⟩
  · exact h
  · omega
def own_e1 (s : Int64) (n c : Int32) (k p w : Int64) : Int64 := if n < c then s else if k = p then s + w else s
theorem own_step {s : Int64} {M M' : Int64 → Int64} {k w x : Int64} (h : ∀ x, M' x = if x = k then M k + w else M x) (hs : s = M x) : (if k = x then s + w else s) = M' x := by
  rw [h]
  by_cases q : x = k
  · subst q; rw [if_pos rfl, if_pos rfl, hs]
  · rw [if_neg q, if_neg (fun z => q z.symm)]; exact hs
theorem own_eN {s : Int64} {n c : Int32} {k p w : Int64} (h : n < c) : own_e1 s n c k p w = s := if_pos h
theorem own_eY {s : Int64} {n c : Int32} {k x w : Int64} {M M' : Int64 → Int64} (h : ¬ n < c) (hM : ∀ x, M' x = if x = k then M k + w else M x) (hs : s = M x) : own_e1 s n c k x w = M' x := by unfold own_e1; rw [if_neg h]; exact own_step hM hs
theorem own_lt12 {n : Int32} (h : n < (1 : Int32)) : n < (2 : Int32) := by rw [Int32.lt_iff_toInt_lt] at h ⊢; have e1 : (1 : Int32).toInt = 1 := rfl; have e2 : (2 : Int32).toInt = 2 := rfl; omega
theorem own_lt23 {n : Int32} (h : n < (2 : Int32)) : n < (3 : Int32) := by rw [Int32.lt_iff_toInt_lt] at h ⊢; have e1 : (3 : Int32).toInt = 3 := rfl; have e2 : (2 : Int32).toInt = 2 := rfl; omega
theorem own_key {r q : Int64} (h : r = (if q = (-9223372036854775808 : Int64) then (0 : Int64) else q)) : ¬ r = (-9223372036854775808 : Int64) := by
  rw [h]; split
  · decide
  · assumption
theorem own_shr (x : Int64) : -2305843009213693952 ≤ (x >>> ((2 : Int32) &&& 0x3f).toInt64).toInt ∧ (x >>> ((2 : Int32) &&& 0x3f).toInt64).toInt < 2305843009213693952 := by
  have e := c_lshr x 2 2 (by decide)
  have := x.toInt_lt; have := x.le_toInt
  rw [e]; omega
theorem own_xor (x y : Int64) : (x >>> ((2 : Int32) &&& 0x3f).toInt64) ^^^ (y >>> ((2 : Int32) &&& 0x3f).toInt64) = (x ^^^ y) >>> ((2 : Int32) &&& 0x3f).toInt64 := by
  apply Int64.toBitVec_inj.mp
  simp only [Int64.toBitVec_xor, Int64.toBitVec_shiftRight, BitVec.sshiftRight_eq']
  rw [BitVec.sshiftRight_xor_distrib]
theorem own_qkey (x : Int64) : ¬ (x >>> ((2 : Int32) &&& 0x3f).toInt64) = (-9223372036854775808 : Int64) := fun h => by
  have := own_shr x; rw [h] at this; have e : (-9223372036854775808 : Int64).toInt = -9223372036854775808 := rfl; omega
theorem own_bnd {M M' : Int64 → Int64} {k w : Int64} {B C : Int} (hM : ∀ x, M' x = if x = k then M k + w else M x) (h : ∀ x, -B ≤ (M x).toInt ∧ (M x).toInt ≤ B) (h1 : -2305843009213693952 ≤ w.toInt) (h2 : w.toInt < 2305843009213693952) (hC : C = B + 2305843009213693952) (hB : C < 9223372036854775808) (hB0 : 0 ≤ B) : ∀ x, -C ≤ (M' x).toInt ∧ (M' x).toInt ≤ C := fun x => by
  rw [hM]; have a := h k; have b := h x
  split
  · have e := c_ladd (M k) w; have l1 := (M k + w).toInt_lt; have l2 := (M k + w).le_toInt; omega
  · omega

theorem d1_0 : decode method_2_code 0 = .ok (.lload_n 0, 1) := by decide +kernel
theorem d1_1 : decode method_2_code 1 = .ok (.ldc2_w 9, 3) := by decide +kernel
theorem d1_4 : decode method_2_code 4 = .ok (.lcmp, 1) := by decide +kernel
theorem d1_5 : decode method_2_code 5 = .ok (.ifCond .ne 7, 3) := by decide +kernel
theorem d1_8 : decode method_2_code 8 = .ok (.lconst 0, 1) := by decide +kernel
theorem d1_9 : decode method_2_code 9 = .ok (.goto 4, 3) := by decide +kernel
theorem d1_12 : decode method_2_code 12 = .ok (.lload_n 0, 1) := by decide +kernel
theorem d1_13 : decode method_2_code 13 = .ok (.lreturn, 1) := by decide +kernel
theorem pn_1 : plainName "com/example/pricewright/pricewright/core/LongSumTableGetPinLaw" = true := by first | (simp [plainName, overriddenIn]; done) | decide +kernel
theorem ef_rmk (m : MethodId) (q1 : Int64) : entryFrame m #[(.long q1)] 2 = mkF m 0 #[.val (.long q1), .second] [] := by first | (simp [entryFrame, mkF, argsToLocals, Value.category]; done) | rfl
def Qrmk (Z : State) (q1 : Int64) (h0 : Heap) (n0 : Nat) (v : Option Value) (h : Heap) (L : List Loc) : Prop := ∃ z : Int64, z = (if q1 = (-9223372036854775808 : Int64) then (0 : Int64) else q1) ∧ v = some (.long z) ∧ Fr n0 L ∧ h = h0
set_option maxRecDepth 65536 in
set_option maxHeartbeats 40000000 in
theorem rmk (l : Launch) (Z : State) (a0 : Array Value) (hw : ∀ d ∈ tables_1, d.before a0 Z = true) (ws : List Jvm.Cond) (q1 : Int64) (h0 : Heap) (n0 : Nat) (Z0 : n0 ≤ h0.size) :
    MetFree l (⟨"com/example/pricewright/pricewright/core/LongSumTableGetPinLaw", "key", "(J)J"⟩ : MethodName) (head1 (Jvm.Cond.code (⟨"com/example/pricewright/pricewright/core/LongSumTableGetPinLaw", "key", "(J)J"⟩ : MethodName) method_2_code 2 (some .long) :: ws) ({ frames := 0, cells := 0, slots := 0, locals := 0 } : Room)) (fun a U => a = #[(.long q1)] ∧ Z.Warmed39 U.vm ∧ U.heap = h0) (fun _ _ _ _ _ => True) (fun _ U o U' => ∃ v L, o = .returned v ∧ Qrmk Z q1 h0 n0 v U'.heap L ∧ FrameEnd U o U' L ({ frames := 0, cells := 0, slots := 0, locals := 0 } : Room).cells ({ frames := 0, cells := 0, slots := 0, locals := 0 } : Room).slots) := by
  refine MetFree.of_bodySF (plainFor_of_name pn_1) hisR ?_
  intro p e s m args below meth c s₁ Bd hml0 hP hK
  obtain ⟨rfl, hZ, hh⟩ := hP
  have hx := Bd.exec
  have hby := Bd.bytes
  have hml : c.maxLocals = 2 := hml0
  have hown : s.vm.findClass "com/example/pricewright/pricewright/core/LongSumTableGetPinLaw" = some m.cls := findClass_of_methodNamed Bd.named
  have hnm := (name_of_methodNamed Bd.named Bd.method).1
  have X0 : Stand p l e ({ frames := 0, cells := 0, slots := 0, locals := 0 } : Room) s m #[(.long q1)] below meth c s₁ [] 0 0 := Stand.of_body Bd
  have e0 : s₁.heap = h0 := by rw [← hh, Bd.state]; rfl
  have N0 := Fr.nil n0
  have pre0 : ∀ t, Steps p.tables e below (s₁.setTop (mkF m 0 #[.val (.long q1), .second] [])) t → Steps p.tables e below (s₁.setTop (entryFrame m #[(.long q1)] 2)) t := fun t k => castTop (ef_rmk m q1) k
  by_cases hc5 : q1 = (-9223372036854775808 : Int64)
  · obtain ⟨fs, hr, hrun, hended, hW, hsame⟩ := X0.leave (v := some (.long (0 : Int64))) (fun h => by rw [Bd.returns] at h; cases h)
    refine ⟨_, _, pre0 _ ?_, hrun, hended, _, _, rfl, ?_, ⟨_, rfl⟩, hW, hsame.mono (by decide) (by decide)⟩
    · show Steps p.tables e below (s₁.setTop (mkF m 0 #[.val (.long q1), .second] [])) _
      refine XS.lloadN X0.here hx rfl (hb hby d1_0) rfl ?_
      show Steps p.tables e below (s₁.setTop (mkF m 1 #[.val (.long q1), .second] [(.long q1)])) _
      refine X0.ldc2Long hx hown (mvT hZ (hw _ (List.mem_of_getElem? (i := 4) rfl))) (g := (mkF m 1 #[.val (.long q1), .second] [(.long q1)])) rfl (hb hby d1_1) _ ?_
      show Steps p.tables e below (s₁.setTop (mkF m 4 #[.val (.long q1), .second] [(.long (-9223372036854775808 : Int64)), (.long q1)])) _
      refine XS.lcmp X0.here hx rfl (hb hby d1_4) rfl ?_
      show Steps p.tables e below (s₁.setTop (mkF m 5 #[.val (.long q1), .second] [(.int (lcmpW q1 (-9223372036854775808 : Int64)))])) _
      refine XS.ifNo X0.here hx rfl (hb hby d1_5) rfl ((if0 _ _).trans (teq (own_lceq hc5)).2) ?_
      show Steps p.tables e below (s₁.setTop (mkF m 8 #[.val (.long q1), .second] [])) _
      refine XS.lconst X0.here hx rfl (hb hby d1_8) ?_
      show Steps p.tables e below (s₁.setTop (mkF m 9 #[.val (.long q1), .second] [(.long (0 : Int64))])) _
      refine XS.goto X0.here hx rfl (pc0 := 9) (pc' := 13) rfl (hb hby d1_9) (by decide) (by decide) ?_
      show Steps p.tables e below (s₁.setTop (mkF m 13 #[.val (.long q1), .second] [(.long (0 : Int64))])) _
      exact X0.lreturnOut hx Bd.returns (hb hby d1_13) hr
    · show Qrmk Z q1 h0 n0 _ s₁.heap _
      exact ⟨_, by simp [hc5], rfl, N0, e0⟩
  · obtain ⟨fs, hr, hrun, hended, hW, hsame⟩ := X0.leave (v := some (.long q1)) (fun h => by rw [Bd.returns] at h; cases h)
    refine ⟨_, _, pre0 _ ?_, hrun, hended, _, _, rfl, ?_, ⟨_, rfl⟩, hW, hsame.mono (by decide) (by decide)⟩
    · show Steps p.tables e below (s₁.setTop (mkF m 0 #[.val (.long q1), .second] [])) _
      refine XS.lloadN X0.here hx rfl (hb hby d1_0) rfl ?_
      show Steps p.tables e below (s₁.setTop (mkF m 1 #[.val (.long q1), .second] [(.long q1)])) _
      refine X0.ldc2Long hx hown (mvT hZ (hw _ (List.mem_of_getElem? (i := 4) rfl))) (g := (mkF m 1 #[.val (.long q1), .second] [(.long q1)])) rfl (hb hby d1_1) _ ?_
      show Steps p.tables e below (s₁.setTop (mkF m 4 #[.val (.long q1), .second] [(.long (-9223372036854775808 : Int64)), (.long q1)])) _
      refine XS.lcmp X0.here hx rfl (hb hby d1_4) rfl ?_
      show Steps p.tables e below (s₁.setTop (mkF m 5 #[.val (.long q1), .second] [(.int (lcmpW q1 (-9223372036854775808 : Int64)))])) _
      refine XS.ifYes X0.here hx rfl (pc0 := 5) (pc' := 12) rfl (hb hby d1_5) rfl ((if0 _ _).trans (feq (own_lcne hc5)).2) (by decide) (by decide) ?_
      show Steps p.tables e below (s₁.setTop (mkF m 12 #[.val (.long q1), .second] [])) _
      refine XS.lloadN X0.here hx rfl (hb hby d1_12) rfl ?_
      show Steps p.tables e below (s₁.setTop (mkF m 13 #[.val (.long q1), .second] [(.long q1)])) _
      exact X0.lreturnOut hx Bd.returns (hb hby d1_13) hr
    · show Qrmk Z q1 h0 n0 _ s₁.heap _
      exact ⟨_, by simp [hc5], rfl, N0, e0⟩
theorem d11_0 : decode method_3_code 0 = .ok (.lconst 0, 1) := by decide +kernel
theorem d11_1 : decode method_3_code 1 = .ok (.lstore 15, 2) := by decide +kernel
theorem d11_3 : decode method_3_code 3 = .ok (.iload_n 2, 1) := by decide +kernel
theorem d11_4 : decode method_3_code 4 = .ok (.iconst 1, 1) := by decide +kernel
theorem d11_5 : decode method_3_code 5 = .ok (.if_icmp .lt 16, 3) := by decide +kernel
theorem d11_8 : decode method_3_code 8 = .ok (.lload_n 3, 1) := by decide +kernel
theorem d11_9 : decode method_3_code 9 = .ok (.lload_n 0, 1) := by decide +kernel
theorem d11_10 : decode method_3_code 10 = .ok (.lcmp, 1) := by decide +kernel
theorem d11_11 : decode method_3_code 11 = .ok (.ifCond .ne 10, 3) := by decide +kernel
theorem d11_14 : decode method_3_code 14 = .ok (.lload 15, 2) := by decide +kernel
theorem d11_16 : decode method_3_code 16 = .ok (.lload 5, 2) := by decide +kernel
theorem d11_18 : decode method_3_code 18 = .ok (.ladd, 1) := by decide +kernel
theorem d11_19 : decode method_3_code 19 = .ok (.lstore 15, 2) := by decide +kernel
theorem d11_21 : decode method_3_code 21 = .ok (.iload_n 2, 1) := by decide +kernel
theorem d11_22 : decode method_3_code 22 = .ok (.iconst 2, 1) := by decide +kernel
theorem d11_23 : decode method_3_code 23 = .ok (.if_icmp .lt 17, 3) := by decide +kernel
theorem d11_26 : decode method_3_code 26 = .ok (.lload 7, 2) := by decide +kernel
theorem d11_28 : decode method_3_code 28 = .ok (.lload_n 0, 1) := by decide +kernel
theorem d11_29 : decode method_3_code 29 = .ok (.lcmp, 1) := by decide +kernel
theorem d11_30 : decode method_3_code 30 = .ok (.ifCond .ne 10, 3) := by decide +kernel
theorem d11_33 : decode method_3_code 33 = .ok (.lload 15, 2) := by decide +kernel
theorem d11_35 : decode method_3_code 35 = .ok (.lload 9, 2) := by decide +kernel
theorem d11_37 : decode method_3_code 37 = .ok (.ladd, 1) := by decide +kernel
theorem d11_38 : decode method_3_code 38 = .ok (.lstore 15, 2) := by decide +kernel
theorem d11_40 : decode method_3_code 40 = .ok (.iload_n 2, 1) := by decide +kernel
theorem d11_41 : decode method_3_code 41 = .ok (.iconst 3, 1) := by decide +kernel
theorem d11_42 : decode method_3_code 42 = .ok (.if_icmp .lt 17, 3) := by decide +kernel
theorem d11_45 : decode method_3_code 45 = .ok (.lload 11, 2) := by decide +kernel
theorem d11_47 : decode method_3_code 47 = .ok (.lload_n 0, 1) := by decide +kernel
theorem d11_48 : decode method_3_code 48 = .ok (.lcmp, 1) := by decide +kernel
theorem d11_49 : decode method_3_code 49 = .ok (.ifCond .ne 10, 3) := by decide +kernel
theorem d11_52 : decode method_3_code 52 = .ok (.lload 15, 2) := by decide +kernel
theorem d11_54 : decode method_3_code 54 = .ok (.lload 13, 2) := by decide +kernel
theorem d11_56 : decode method_3_code 56 = .ok (.ladd, 1) := by decide +kernel
theorem d11_57 : decode method_3_code 57 = .ok (.lstore 15, 2) := by decide +kernel
theorem d11_59 : decode method_3_code 59 = .ok (.lload 15, 2) := by decide +kernel
theorem d11_61 : decode method_3_code 61 = .ok (.lreturn, 1) := by decide +kernel
theorem pn_11 : plainName "com/example/pricewright/pricewright/core/LongSumTableGetPinLaw" = true := by first | (simp [plainName, overriddenIn]; done) | decide +kernel
theorem ef_rme (m : MethodId) (q1 : Int64) (p2 : Int32) (q3 : Int64) (q4 : Int64) (q5 : Int64) (q6 : Int64) (q7 : Int64) (q8 : Int64) : entryFrame m #[(.long q1), (.int p2), (.long q3), (.long q4), (.long q5), (.long q6), (.long q7), (.long q8)] 17 = mkF m 0 #[.val (.long q1), .second, .val (.int p2), .val (.long q3), .second, .val (.long q4), .second, .val (.long q5), .second, .val (.long q6), .second, .val (.long q7), .second, .val (.long q8), .second, .unset, .unset] [] := by first | (simp [entryFrame, mkF, argsToLocals, Value.category]; done) | rfl
def Qrme (Z : State) (q1 : Int64) (p2 : Int32) (q3 : Int64) (q4 : Int64) (q5 : Int64) (q6 : Int64) (q7 : Int64) (q8 : Int64) (h0 : Heap) (n0 : Nat) (v : Option Value) (h : Heap) (L : List Loc) : Prop := ∃ z : Int64, z = (own_e1 (own_e1 (own_e1 (0 : Int64) p2 (1 : Int32) q3 q1 q4) p2 (2 : Int32) q5 q1 q6) p2 (3 : Int32) q7 q1 q8) ∧ v = some (.long z) ∧ Fr n0 L ∧ h = h0
set_option maxRecDepth 65536 in
set_option maxHeartbeats 40000000 in
theorem rme (l : Launch) (Z : State) (a0 : Array Value) (hw : ∀ d ∈ tables_1, d.before a0 Z = true) (ws : List Jvm.Cond) (q1 : Int64) (p2 : Int32) (q3 : Int64) (q4 : Int64) (q5 : Int64) (q6 : Int64) (q7 : Int64) (q8 : Int64) (h0 : Heap) (n0 : Nat) (Z0 : n0 ≤ h0.size) :
    MetFree l (⟨"com/example/pricewright/pricewright/core/LongSumTableGetPinLaw", "expect", "(JIJJJJJJ)J"⟩ : MethodName) (head1 (Jvm.Cond.code (⟨"com/example/pricewright/pricewright/core/LongSumTableGetPinLaw", "expect", "(JIJJJJJJ)J"⟩ : MethodName) method_3_code 17 (some .long) :: ws) ({ frames := 0, cells := 0, slots := 0, locals := 0 } : Room)) (fun a U => a = #[(.long q1), (.int p2), (.long q3), (.long q4), (.long q5), (.long q6), (.long q7), (.long q8)] ∧ Z.Warmed39 U.vm ∧ U.heap = h0) (fun _ _ _ _ _ => True) (fun _ U o U' => ∃ v L, o = .returned v ∧ Qrme Z q1 p2 q3 q4 q5 q6 q7 q8 h0 n0 v U'.heap L ∧ FrameEnd U o U' L ({ frames := 0, cells := 0, slots := 0, locals := 0 } : Room).cells ({ frames := 0, cells := 0, slots := 0, locals := 0 } : Room).slots) := by
  refine MetFree.of_bodySF (plainFor_of_name pn_11) hisR ?_
  intro p e s m args below meth c s₁ Bd hml0 hP hK
  obtain ⟨rfl, hZ, hh⟩ := hP
  have hx := Bd.exec
  have hby := Bd.bytes
  have hml : c.maxLocals = 17 := hml0
  have hown : s.vm.findClass "com/example/pricewright/pricewright/core/LongSumTableGetPinLaw" = some m.cls := findClass_of_methodNamed Bd.named
  have hnm := (name_of_methodNamed Bd.named Bd.method).1
  have X0 : Stand p l e ({ frames := 0, cells := 0, slots := 0, locals := 0 } : Room) s m #[(.long q1), (.int p2), (.long q3), (.long q4), (.long q5), (.long q6), (.long q7), (.long q8)] below meth c s₁ [] 0 0 := Stand.of_body Bd
  have e0 : s₁.heap = h0 := by rw [← hh, Bd.state]; rfl
  have N0 := Fr.nil n0
  have pre0 : ∀ t, Steps p.tables e below (s₁.setTop (mkF m 0 #[.val (.long q1), .second, .val (.int p2), .val (.long q3), .second, .val (.long q4), .second, .val (.long q5), .second, .val (.long q6), .second, .val (.long q7), .second, .val (.long q8), .second, .unset, .unset] [])) t → Steps p.tables e below (s₁.setTop (entryFrame m #[(.long q1), (.int p2), (.long q3), (.long q4), (.long q5), (.long q6), (.long q7), (.long q8)] 17)) t := fun t k => castTop (ef_rme m q1 p2 q3 q4 q5 q6 q7 q8) k
  obtain ⟨s1, hs1⟩ : ∃ z : Int64, z = (if p2 < (1 : Int32) then (0 : Int64) else (if q3 = q1 then ((0 : Int64) + q4) else (0 : Int64))) := ⟨_, rfl⟩
  have sg1 : ∀ t, Steps p.tables e below (s₁.setTop (mkF m 21 #[.val (.long q1), .second, .val (.int p2), .val (.long q3), .second, .val (.long q4), .second, .val (.long q5), .second, .val (.long q6), .second, .val (.long q7), .second, .val (.long q8), .second, .val (.long s1), .second] [])) t → Steps p.tables e below (s₁.setTop (mkF m 3 #[.val (.long q1), .second, .val (.int p2), .val (.long q3), .second, .val (.long q4), .second, .val (.long q5), .second, .val (.long q6), .second, .val (.long q7), .second, .val (.long q8), .second, .val (.long (0 : Int64)), .second] [])) t := by
    intro t kt
    by_cases hj1_5 : p2 < (1 : Int32)
    · rw [if_pos hj1_5] at hs1
      rw [hs1] at kt
      show Steps p.tables e below (s₁.setTop (mkF m 3 #[.val (.long q1), .second, .val (.int p2), .val (.long q3), .second, .val (.long q4), .second, .val (.long q5), .second, .val (.long q6), .second, .val (.long q7), .second, .val (.long q8), .second, .val (.long (0 : Int64)), .second] [])) _
      refine XS.iloadN X0.here hx rfl (hb hby d11_3) rfl ?_
      show Steps p.tables e below (s₁.setTop (mkF m 4 #[.val (.long q1), .second, .val (.int p2), .val (.long q3), .second, .val (.long q4), .second, .val (.long q5), .second, .val (.long q6), .second, .val (.long q7), .second, .val (.long q8), .second, .val (.long (0 : Int64)), .second] [(.int p2)])) _
      refine XS.iconst X0.here hx rfl (hb hby d11_4) ?_
      show Steps p.tables e below (s₁.setTop (mkF m 5 #[.val (.long q1), .second, .val (.int p2), .val (.long q3), .second, .val (.long q4), .second, .val (.long q5), .second, .val (.long q6), .second, .val (.long q7), .second, .val (.long q8), .second, .val (.long (0 : Int64)), .second] [(.int (1 : Int32)), (.int p2)])) _
      refine XS.icmpYes X0.here hx rfl (pc0 := 5) (pc' := 21) rfl (hb hby d11_5) rfl (tlt hj1_5).1 (by decide) (by decide) ?_
      exact kt
    · by_cases hj1_11 : q3 = q1
      · rw [if_neg hj1_5, if_pos hj1_11] at hs1
        rw [hs1] at kt
        show Steps p.tables e below (s₁.setTop (mkF m 3 #[.val (.long q1), .second, .val (.int p2), .val (.long q3), .second, .val (.long q4), .second, .val (.long q5), .second, .val (.long q6), .second, .val (.long q7), .second, .val (.long q8), .second, .val (.long (0 : Int64)), .second] [])) _
        refine XS.iloadN X0.here hx rfl (hb hby d11_3) rfl ?_
        show Steps p.tables e below (s₁.setTop (mkF m 4 #[.val (.long q1), .second, .val (.int p2), .val (.long q3), .second, .val (.long q4), .second, .val (.long q5), .second, .val (.long q6), .second, .val (.long q7), .second, .val (.long q8), .second, .val (.long (0 : Int64)), .second] [(.int p2)])) _
        refine XS.iconst X0.here hx rfl (hb hby d11_4) ?_
        show Steps p.tables e below (s₁.setTop (mkF m 5 #[.val (.long q1), .second, .val (.int p2), .val (.long q3), .second, .val (.long q4), .second, .val (.long q5), .second, .val (.long q6), .second, .val (.long q7), .second, .val (.long q8), .second, .val (.long (0 : Int64)), .second] [(.int (1 : Int32)), (.int p2)])) _
        refine XS.icmpNo X0.here hx rfl (hb hby d11_5) rfl (flt hj1_5).1 ?_
        show Steps p.tables e below (s₁.setTop (mkF m 8 #[.val (.long q1), .second, .val (.int p2), .val (.long q3), .second, .val (.long q4), .second, .val (.long q5), .second, .val (.long q6), .second, .val (.long q7), .second, .val (.long q8), .second, .val (.long (0 : Int64)), .second] [])) _
        refine XS.lloadN X0.here hx rfl (hb hby d11_8) rfl ?_
        show Steps p.tables e below (s₁.setTop (mkF m 9 #[.val (.long q1), .second, .val (.int p2), .val (.long q3), .second, .val (.long q4), .second, .val (.long q5), .second, .val (.long q6), .second, .val (.long q7), .second, .val (.long q8), .second, .val (.long (0 : Int64)), .second] [(.long q3)])) _
        refine XS.lloadN X0.here hx rfl (hb hby d11_9) rfl ?_
        show Steps p.tables e below (s₁.setTop (mkF m 10 #[.val (.long q1), .second, .val (.int p2), .val (.long q3), .second, .val (.long q4), .second, .val (.long q5), .second, .val (.long q6), .second, .val (.long q7), .second, .val (.long q8), .second, .val (.long (0 : Int64)), .second] [(.long q1), (.long q3)])) _
        refine XS.lcmp X0.here hx rfl (hb hby d11_10) rfl ?_
        show Steps p.tables e below (s₁.setTop (mkF m 11 #[.val (.long q1), .second, .val (.int p2), .val (.long q3), .second, .val (.long q4), .second, .val (.long q5), .second, .val (.long q6), .second, .val (.long q7), .second, .val (.long q8), .second, .val (.long (0 : Int64)), .second] [(.int (lcmpW q3 q1))])) _
        refine XS.ifNo X0.here hx rfl (hb hby d11_11) rfl ((if0 _ _).trans (teq (own_lceq hj1_11)).2) ?_
        show Steps p.tables e below (s₁.setTop (mkF m 14 #[.val (.long q1), .second, .val (.int p2), .val (.long q3), .second, .val (.long q4), .second, .val (.long q5), .second, .val (.long q6), .second, .val (.long q7), .second, .val (.long q8), .second, .val (.long (0 : Int64)), .second] [])) _
        refine XS.lload X0.here hx rfl (hb hby d11_14) rfl ?_
        show Steps p.tables e below (s₁.setTop (mkF m 16 #[.val (.long q1), .second, .val (.int p2), .val (.long q3), .second, .val (.long q4), .second, .val (.long q5), .second, .val (.long q6), .second, .val (.long q7), .second, .val (.long q8), .second, .val (.long (0 : Int64)), .second] [(.long (0 : Int64))])) _
        refine XS.lload X0.here hx rfl (hb hby d11_16) rfl ?_
        show Steps p.tables e below (s₁.setTop (mkF m 18 #[.val (.long q1), .second, .val (.int p2), .val (.long q3), .second, .val (.long q4), .second, .val (.long q5), .second, .val (.long q6), .second, .val (.long q7), .second, .val (.long q8), .second, .val (.long (0 : Int64)), .second] [(.long q4), (.long (0 : Int64))])) _
        refine XS.ladd X0.here hx rfl (hb hby d11_18) rfl ?_
        show Steps p.tables e below (s₁.setTop (mkF m 19 #[.val (.long q1), .second, .val (.int p2), .val (.long q3), .second, .val (.long q4), .second, .val (.long q5), .second, .val (.long q6), .second, .val (.long q7), .second, .val (.long q8), .second, .val (.long (0 : Int64)), .second] [(.long ((0 : Int64) + q4))])) _
        refine XS.lstore X0.here hx rfl (hb hby d11_19) rfl (l' := #[.val (.long q1), .second, .val (.int p2), .val (.long q3), .second, .val (.long q4), .second, .val (.long q5), .second, .val (.long q6), .second, .val (.long q7), .second, .val (.long q8), .second, .val (.long ((0 : Int64) + q4)), .second]) rfl ?_
        exact kt
      · rw [if_neg hj1_5, if_neg hj1_11] at hs1
        rw [hs1] at kt
        show Steps p.tables e below (s₁.setTop (mkF m 3 #[.val (.long q1), .second, .val (.int p2), .val (.long q3), .second, .val (.long q4), .second, .val (.long q5), .second, .val (.long q6), .second, .val (.long q7), .second, .val (.long q8), .second, .val (.long (0 : Int64)), .second] [])) _
        refine XS.iloadN X0.here hx rfl (hb hby d11_3) rfl ?_
        show Steps p.tables e below (s₁.setTop (mkF m 4 #[.val (.long q1), .second, .val (.int p2), .val (.long q3), .second, .val (.long q4), .second, .val (.long q5), .second, .val (.long q6), .second, .val (.long q7), .second, .val (.long q8), .second, .val (.long (0 : Int64)), .second] [(.int p2)])) _
        refine XS.iconst X0.here hx rfl (hb hby d11_4) ?_
        show Steps p.tables e below (s₁.setTop (mkF m 5 #[.val (.long q1), .second, .val (.int p2), .val (.long q3), .second, .val (.long q4), .second, .val (.long q5), .second, .val (.long q6), .second, .val (.long q7), .second, .val (.long q8), .second, .val (.long (0 : Int64)), .second] [(.int (1 : Int32)), (.int p2)])) _
        refine XS.icmpNo X0.here hx rfl (hb hby d11_5) rfl (flt hj1_5).1 ?_
        show Steps p.tables e below (s₁.setTop (mkF m 8 #[.val (.long q1), .second, .val (.int p2), .val (.long q3), .second, .val (.long q4), .second, .val (.long q5), .second, .val (.long q6), .second, .val (.long q7), .second, .val (.long q8), .second, .val (.long (0 : Int64)), .second] [])) _
        refine XS.lloadN X0.here hx rfl (hb hby d11_8) rfl ?_
        show Steps p.tables e below (s₁.setTop (mkF m 9 #[.val (.long q1), .second, .val (.int p2), .val (.long q3), .second, .val (.long q4), .second, .val (.long q5), .second, .val (.long q6), .second, .val (.long q7), .second, .val (.long q8), .second, .val (.long (0 : Int64)), .second] [(.long q3)])) _
        refine XS.lloadN X0.here hx rfl (hb hby d11_9) rfl ?_
        show Steps p.tables e below (s₁.setTop (mkF m 10 #[.val (.long q1), .second, .val (.int p2), .val (.long q3), .second, .val (.long q4), .second, .val (.long q5), .second, .val (.long q6), .second, .val (.long q7), .second, .val (.long q8), .second, .val (.long (0 : Int64)), .second] [(.long q1), (.long q3)])) _
        refine XS.lcmp X0.here hx rfl (hb hby d11_10) rfl ?_
        show Steps p.tables e below (s₁.setTop (mkF m 11 #[.val (.long q1), .second, .val (.int p2), .val (.long q3), .second, .val (.long q4), .second, .val (.long q5), .second, .val (.long q6), .second, .val (.long q7), .second, .val (.long q8), .second, .val (.long (0 : Int64)), .second] [(.int (lcmpW q3 q1))])) _
        refine XS.ifYes X0.here hx rfl (pc0 := 11) (pc' := 21) rfl (hb hby d11_11) rfl ((if0 _ _).trans (feq (own_lcne hj1_11)).2) (by decide) (by decide) ?_
        exact kt
  obtain ⟨s2, hs2⟩ : ∃ z : Int64, z = (if p2 < (2 : Int32) then s1 else (if q5 = q1 then (s1 + q6) else s1)) := ⟨_, rfl⟩
  have sg2 : ∀ t, Steps p.tables e below (s₁.setTop (mkF m 40 #[.val (.long q1), .second, .val (.int p2), .val (.long q3), .second, .val (.long q4), .second, .val (.long q5), .second, .val (.long q6), .second, .val (.long q7), .second, .val (.long q8), .second, .val (.long s2), .second] [])) t → Steps p.tables e below (s₁.setTop (mkF m 21 #[.val (.long q1), .second, .val (.int p2), .val (.long q3), .second, .val (.long q4), .second, .val (.long q5), .second, .val (.long q6), .second, .val (.long q7), .second, .val (.long q8), .second, .val (.long s1), .second] [])) t := by
    intro t kt
    by_cases hj2_23 : p2 < (2 : Int32)
    · rw [if_pos hj2_23] at hs2
      rw [hs2] at kt
      show Steps p.tables e below (s₁.setTop (mkF m 21 #[.val (.long q1), .second, .val (.int p2), .val (.long q3), .second, .val (.long q4), .second, .val (.long q5), .second, .val (.long q6), .second, .val (.long q7), .second, .val (.long q8), .second, .val (.long s1), .second] [])) _
      refine XS.iloadN X0.here hx rfl (hb hby d11_21) rfl ?_
      show Steps p.tables e below (s₁.setTop (mkF m 22 #[.val (.long q1), .second, .val (.int p2), .val (.long q3), .second, .val (.long q4), .second, .val (.long q5), .second, .val (.long q6), .second, .val (.long q7), .second, .val (.long q8), .second, .val (.long s1), .second] [(.int p2)])) _
      refine XS.iconst X0.here hx rfl (hb hby d11_22) ?_
      show Steps p.tables e below (s₁.setTop (mkF m 23 #[.val (.long q1), .second, .val (.int p2), .val (.long q3), .second, .val (.long q4), .second, .val (.long q5), .second, .val (.long q6), .second, .val (.long q7), .second, .val (.long q8), .second, .val (.long s1), .second] [(.int (2 : Int32)), (.int p2)])) _
      refine XS.icmpYes X0.here hx rfl (pc0 := 23) (pc' := 40) rfl (hb hby d11_23) rfl (tlt hj2_23).1 (by decide) (by decide) ?_
      exact kt
    · by_cases hj2_30 : q5 = q1
      · rw [if_neg hj2_23, if_pos hj2_30] at hs2
        rw [hs2] at kt
        show Steps p.tables e below (s₁.setTop (mkF m 21 #[.val (.long q1), .second, .val (.int p2), .val (.long q3), .second, .val (.long q4), .second, .val (.long q5), .second, .val (.long q6), .second, .val (.long q7), .second, .val (.long q8), .second, .val (.long s1), .second] [])) _
        refine XS.iloadN X0.here hx rfl (hb hby d11_21) rfl ?_
        show Steps p.tables e below (s₁.setTop (mkF m 22 #[.val (.long q1), .second, .val (.int p2), .val (.long q3), .second, .val (.long q4), .second, .val (.long q5), .second, .val (.long q6), .second, .val (.long q7), .second, .val (.long q8), .second, .val (.long s1), .second] [(.int p2)])) _
        refine XS.iconst X0.here hx rfl (hb hby d11_22) ?_
        show Steps p.tables e below (s₁.setTop (mkF m 23 #[.val (.long q1), .second, .val (.int p2), .val (.long q3), .second, .val (.long q4), .second, .val (.long q5), .second, .val (.long q6), .second, .val (.long q7), .second, .val (.long q8), .second, .val (.long s1), .second] [(.int (2 : Int32)), (.int p2)])) _
        refine XS.icmpNo X0.here hx rfl (hb hby d11_23) rfl (flt hj2_23).1 ?_
        show Steps p.tables e below (s₁.setTop (mkF m 26 #[.val (.long q1), .second, .val (.int p2), .val (.long q3), .second, .val (.long q4), .second, .val (.long q5), .second, .val (.long q6), .second, .val (.long q7), .second, .val (.long q8), .second, .val (.long s1), .second] [])) _
        refine XS.lload X0.here hx rfl (hb hby d11_26) rfl ?_
        show Steps p.tables e below (s₁.setTop (mkF m 28 #[.val (.long q1), .second, .val (.int p2), .val (.long q3), .second, .val (.long q4), .second, .val (.long q5), .second, .val (.long q6), .second, .val (.long q7), .second, .val (.long q8), .second, .val (.long s1), .second] [(.long q5)])) _
        refine XS.lloadN X0.here hx rfl (hb hby d11_28) rfl ?_
        show Steps p.tables e below (s₁.setTop (mkF m 29 #[.val (.long q1), .second, .val (.int p2), .val (.long q3), .second, .val (.long q4), .second, .val (.long q5), .second, .val (.long q6), .second, .val (.long q7), .second, .val (.long q8), .second, .val (.long s1), .second] [(.long q1), (.long q5)])) _
        refine XS.lcmp X0.here hx rfl (hb hby d11_29) rfl ?_
        show Steps p.tables e below (s₁.setTop (mkF m 30 #[.val (.long q1), .second, .val (.int p2), .val (.long q3), .second, .val (.long q4), .second, .val (.long q5), .second, .val (.long q6), .second, .val (.long q7), .second, .val (.long q8), .second, .val (.long s1), .second] [(.int (lcmpW q5 q1))])) _
        refine XS.ifNo X0.here hx rfl (hb hby d11_30) rfl ((if0 _ _).trans (teq (own_lceq hj2_30)).2) ?_
        show Steps p.tables e below (s₁.setTop (mkF m 33 #[.val (.long q1), .second, .val (.int p2), .val (.long q3), .second, .val (.long q4), .second, .val (.long q5), .second, .val (.long q6), .second, .val (.long q7), .second, .val (.long q8), .second, .val (.long s1), .second] [])) _
        refine XS.lload X0.here hx rfl (hb hby d11_33) rfl ?_
        show Steps p.tables e below (s₁.setTop (mkF m 35 #[.val (.long q1), .second, .val (.int p2), .val (.long q3), .second, .val (.long q4), .second, .val (.long q5), .second, .val (.long q6), .second, .val (.long q7), .second, .val (.long q8), .second, .val (.long s1), .second] [(.long s1)])) _
        refine XS.lload X0.here hx rfl (hb hby d11_35) rfl ?_
        show Steps p.tables e below (s₁.setTop (mkF m 37 #[.val (.long q1), .second, .val (.int p2), .val (.long q3), .second, .val (.long q4), .second, .val (.long q5), .second, .val (.long q6), .second, .val (.long q7), .second, .val (.long q8), .second, .val (.long s1), .second] [(.long q6), (.long s1)])) _
        refine XS.ladd X0.here hx rfl (hb hby d11_37) rfl ?_
        show Steps p.tables e below (s₁.setTop (mkF m 38 #[.val (.long q1), .second, .val (.int p2), .val (.long q3), .second, .val (.long q4), .second, .val (.long q5), .second, .val (.long q6), .second, .val (.long q7), .second, .val (.long q8), .second, .val (.long s1), .second] [(.long (s1 + q6))])) _
        refine XS.lstore X0.here hx rfl (hb hby d11_38) rfl (l' := #[.val (.long q1), .second, .val (.int p2), .val (.long q3), .second, .val (.long q4), .second, .val (.long q5), .second, .val (.long q6), .second, .val (.long q7), .second, .val (.long q8), .second, .val (.long (s1 + q6)), .second]) rfl ?_
        exact kt
      · rw [if_neg hj2_23, if_neg hj2_30] at hs2
        rw [hs2] at kt
        show Steps p.tables e below (s₁.setTop (mkF m 21 #[.val (.long q1), .second, .val (.int p2), .val (.long q3), .second, .val (.long q4), .second, .val (.long q5), .second, .val (.long q6), .second, .val (.long q7), .second, .val (.long q8), .second, .val (.long s1), .second] [])) _
        refine XS.iloadN X0.here hx rfl (hb hby d11_21) rfl ?_
        show Steps p.tables e below (s₁.setTop (mkF m 22 #[.val (.long q1), .second, .val (.int p2), .val (.long q3), .second, .val (.long q4), .second, .val (.long q5), .second, .val (.long q6), .second, .val (.long q7), .second, .val (.long q8), .second, .val (.long s1), .second] [(.int p2)])) _
        refine XS.iconst X0.here hx rfl (hb hby d11_22) ?_
        show Steps p.tables e below (s₁.setTop (mkF m 23 #[.val (.long q1), .second, .val (.int p2), .val (.long q3), .second, .val (.long q4), .second, .val (.long q5), .second, .val (.long q6), .second, .val (.long q7), .second, .val (.long q8), .second, .val (.long s1), .second] [(.int (2 : Int32)), (.int p2)])) _
        refine XS.icmpNo X0.here hx rfl (hb hby d11_23) rfl (flt hj2_23).1 ?_
        show Steps p.tables e below (s₁.setTop (mkF m 26 #[.val (.long q1), .second, .val (.int p2), .val (.long q3), .second, .val (.long q4), .second, .val (.long q5), .second, .val (.long q6), .second, .val (.long q7), .second, .val (.long q8), .second, .val (.long s1), .second] [])) _
        refine XS.lload X0.here hx rfl (hb hby d11_26) rfl ?_
        show Steps p.tables e below (s₁.setTop (mkF m 28 #[.val (.long q1), .second, .val (.int p2), .val (.long q3), .second, .val (.long q4), .second, .val (.long q5), .second, .val (.long q6), .second, .val (.long q7), .second, .val (.long q8), .second, .val (.long s1), .second] [(.long q5)])) _
        refine XS.lloadN X0.here hx rfl (hb hby d11_28) rfl ?_
        show Steps p.tables e below (s₁.setTop (mkF m 29 #[.val (.long q1), .second, .val (.int p2), .val (.long q3), .second, .val (.long q4), .second, .val (.long q5), .second, .val (.long q6), .second, .val (.long q7), .second, .val (.long q8), .second, .val (.long s1), .second] [(.long q1), (.long q5)])) _
        refine XS.lcmp X0.here hx rfl (hb hby d11_29) rfl ?_
        show Steps p.tables e below (s₁.setTop (mkF m 30 #[.val (.long q1), .second, .val (.int p2), .val (.long q3), .second, .val (.long q4), .second, .val (.long q5), .second, .val (.long q6), .second, .val (.long q7), .second, .val (.long q8), .second, .val (.long s1), .second] [(.int (lcmpW q5 q1))])) _
        refine XS.ifYes X0.here hx rfl (pc0 := 30) (pc' := 40) rfl (hb hby d11_30) rfl ((if0 _ _).trans (feq (own_lcne hj2_30)).2) (by decide) (by decide) ?_
        exact kt
  obtain ⟨s3, hs3⟩ : ∃ z : Int64, z = (if p2 < (3 : Int32) then s2 else (if q7 = q1 then (s2 + q8) else s2)) := ⟨_, rfl⟩
  have sg3 : ∀ t, Steps p.tables e below (s₁.setTop (mkF m 59 #[.val (.long q1), .second, .val (.int p2), .val (.long q3), .second, .val (.long q4), .second, .val (.long q5), .second, .val (.long q6), .second, .val (.long q7), .second, .val (.long q8), .second, .val (.long s3), .second] [])) t → Steps p.tables e below (s₁.setTop (mkF m 40 #[.val (.long q1), .second, .val (.int p2), .val (.long q3), .second, .val (.long q4), .second, .val (.long q5), .second, .val (.long q6), .second, .val (.long q7), .second, .val (.long q8), .second, .val (.long s2), .second] [])) t := by
    intro t kt
    by_cases hj3_42 : p2 < (3 : Int32)
    · rw [if_pos hj3_42] at hs3
      rw [hs3] at kt
      show Steps p.tables e below (s₁.setTop (mkF m 40 #[.val (.long q1), .second, .val (.int p2), .val (.long q3), .second, .val (.long q4), .second, .val (.long q5), .second, .val (.long q6), .second, .val (.long q7), .second, .val (.long q8), .second, .val (.long s2), .second] [])) _
      refine XS.iloadN X0.here hx rfl (hb hby d11_40) rfl ?_
      show Steps p.tables e below (s₁.setTop (mkF m 41 #[.val (.long q1), .second, .val (.int p2), .val (.long q3), .second, .val (.long q4), .second, .val (.long q5), .second, .val (.long q6), .second, .val (.long q7), .second, .val (.long q8), .second, .val (.long s2), .second] [(.int p2)])) _
      refine XS.iconst X0.here hx rfl (hb hby d11_41) ?_
      show Steps p.tables e below (s₁.setTop (mkF m 42 #[.val (.long q1), .second, .val (.int p2), .val (.long q3), .second, .val (.long q4), .second, .val (.long q5), .second, .val (.long q6), .second, .val (.long q7), .second, .val (.long q8), .second, .val (.long s2), .second] [(.int (3 : Int32)), (.int p2)])) _
      refine XS.icmpYes X0.here hx rfl (pc0 := 42) (pc' := 59) rfl (hb hby d11_42) rfl (tlt hj3_42).1 (by decide) (by decide) ?_
      exact kt
    · by_cases hj3_49 : q7 = q1
      · rw [if_neg hj3_42, if_pos hj3_49] at hs3
        rw [hs3] at kt
        show Steps p.tables e below (s₁.setTop (mkF m 40 #[.val (.long q1), .second, .val (.int p2), .val (.long q3), .second, .val (.long q4), .second, .val (.long q5), .second, .val (.long q6), .second, .val (.long q7), .second, .val (.long q8), .second, .val (.long s2), .second] [])) _
        refine XS.iloadN X0.here hx rfl (hb hby d11_40) rfl ?_
        show Steps p.tables e below (s₁.setTop (mkF m 41 #[.val (.long q1), .second, .val (.int p2), .val (.long q3), .second, .val (.long q4), .second, .val (.long q5), .second, .val (.long q6), .second, .val (.long q7), .second, .val (.long q8), .second, .val (.long s2), .second] [(.int p2)])) _
        refine XS.iconst X0.here hx rfl (hb hby d11_41) ?_
        show Steps p.tables e below (s₁.setTop (mkF m 42 #[.val (.long q1), .second, .val (.int p2), .val (.long q3), .second, .val (.long q4), .second, .val (.long q5), .second, .val (.long q6), .second, .val (.long q7), .second, .val (.long q8), .second, .val (.long s2), .second] [(.int (3 : Int32)), (.int p2)])) _
        refine XS.icmpNo X0.here hx rfl (hb hby d11_42) rfl (flt hj3_42).1 ?_
        show Steps p.tables e below (s₁.setTop (mkF m 45 #[.val (.long q1), .second, .val (.int p2), .val (.long q3), .second, .val (.long q4), .second, .val (.long q5), .second, .val (.long q6), .second, .val (.long q7), .second, .val (.long q8), .second, .val (.long s2), .second] [])) _
        refine XS.lload X0.here hx rfl (hb hby d11_45) rfl ?_
        show Steps p.tables e below (s₁.setTop (mkF m 47 #[.val (.long q1), .second, .val (.int p2), .val (.long q3), .second, .val (.long q4), .second, .val (.long q5), .second, .val (.long q6), .second, .val (.long q7), .second, .val (.long q8), .second, .val (.long s2), .second] [(.long q7)])) _
        refine XS.lloadN X0.here hx rfl (hb hby d11_47) rfl ?_
        show Steps p.tables e below (s₁.setTop (mkF m 48 #[.val (.long q1), .second, .val (.int p2), .val (.long q3), .second, .val (.long q4), .second, .val (.long q5), .second, .val (.long q6), .second, .val (.long q7), .second, .val (.long q8), .second, .val (.long s2), .second] [(.long q1), (.long q7)])) _
        refine XS.lcmp X0.here hx rfl (hb hby d11_48) rfl ?_
        show Steps p.tables e below (s₁.setTop (mkF m 49 #[.val (.long q1), .second, .val (.int p2), .val (.long q3), .second, .val (.long q4), .second, .val (.long q5), .second, .val (.long q6), .second, .val (.long q7), .second, .val (.long q8), .second, .val (.long s2), .second] [(.int (lcmpW q7 q1))])) _
        refine XS.ifNo X0.here hx rfl (hb hby d11_49) rfl ((if0 _ _).trans (teq (own_lceq hj3_49)).2) ?_
        show Steps p.tables e below (s₁.setTop (mkF m 52 #[.val (.long q1), .second, .val (.int p2), .val (.long q3), .second, .val (.long q4), .second, .val (.long q5), .second, .val (.long q6), .second, .val (.long q7), .second, .val (.long q8), .second, .val (.long s2), .second] [])) _
        refine XS.lload X0.here hx rfl (hb hby d11_52) rfl ?_
        show Steps p.tables e below (s₁.setTop (mkF m 54 #[.val (.long q1), .second, .val (.int p2), .val (.long q3), .second, .val (.long q4), .second, .val (.long q5), .second, .val (.long q6), .second, .val (.long q7), .second, .val (.long q8), .second, .val (.long s2), .second] [(.long s2)])) _
        refine XS.lload X0.here hx rfl (hb hby d11_54) rfl ?_
        show Steps p.tables e below (s₁.setTop (mkF m 56 #[.val (.long q1), .second, .val (.int p2), .val (.long q3), .second, .val (.long q4), .second, .val (.long q5), .second, .val (.long q6), .second, .val (.long q7), .second, .val (.long q8), .second, .val (.long s2), .second] [(.long q8), (.long s2)])) _
        refine XS.ladd X0.here hx rfl (hb hby d11_56) rfl ?_
        show Steps p.tables e below (s₁.setTop (mkF m 57 #[.val (.long q1), .second, .val (.int p2), .val (.long q3), .second, .val (.long q4), .second, .val (.long q5), .second, .val (.long q6), .second, .val (.long q7), .second, .val (.long q8), .second, .val (.long s2), .second] [(.long (s2 + q8))])) _
        refine XS.lstore X0.here hx rfl (hb hby d11_57) rfl (l' := #[.val (.long q1), .second, .val (.int p2), .val (.long q3), .second, .val (.long q4), .second, .val (.long q5), .second, .val (.long q6), .second, .val (.long q7), .second, .val (.long q8), .second, .val (.long (s2 + q8)), .second]) rfl ?_
        exact kt
      · rw [if_neg hj3_42, if_neg hj3_49] at hs3
        rw [hs3] at kt
        show Steps p.tables e below (s₁.setTop (mkF m 40 #[.val (.long q1), .second, .val (.int p2), .val (.long q3), .second, .val (.long q4), .second, .val (.long q5), .second, .val (.long q6), .second, .val (.long q7), .second, .val (.long q8), .second, .val (.long s2), .second] [])) _
        refine XS.iloadN X0.here hx rfl (hb hby d11_40) rfl ?_
        show Steps p.tables e below (s₁.setTop (mkF m 41 #[.val (.long q1), .second, .val (.int p2), .val (.long q3), .second, .val (.long q4), .second, .val (.long q5), .second, .val (.long q6), .second, .val (.long q7), .second, .val (.long q8), .second, .val (.long s2), .second] [(.int p2)])) _
        refine XS.iconst X0.here hx rfl (hb hby d11_41) ?_
        show Steps p.tables e below (s₁.setTop (mkF m 42 #[.val (.long q1), .second, .val (.int p2), .val (.long q3), .second, .val (.long q4), .second, .val (.long q5), .second, .val (.long q6), .second, .val (.long q7), .second, .val (.long q8), .second, .val (.long s2), .second] [(.int (3 : Int32)), (.int p2)])) _
        refine XS.icmpNo X0.here hx rfl (hb hby d11_42) rfl (flt hj3_42).1 ?_
        show Steps p.tables e below (s₁.setTop (mkF m 45 #[.val (.long q1), .second, .val (.int p2), .val (.long q3), .second, .val (.long q4), .second, .val (.long q5), .second, .val (.long q6), .second, .val (.long q7), .second, .val (.long q8), .second, .val (.long s2), .second] [])) _
        refine XS.lload X0.here hx rfl (hb hby d11_45) rfl ?_
        show Steps p.tables e below (s₁.setTop (mkF m 47 #[.val (.long q1), .second, .val (.int p2), .val (.long q3), .second, .val (.long q4), .second, .val (.long q5), .second, .val (.long q6), .second, .val (.long q7), .second, .val (.long q8), .second, .val (.long s2), .second] [(.long q7)])) _
        refine XS.lloadN X0.here hx rfl (hb hby d11_47) rfl ?_
        show Steps p.tables e below (s₁.setTop (mkF m 48 #[.val (.long q1), .second, .val (.int p2), .val (.long q3), .second, .val (.long q4), .second, .val (.long q5), .second, .val (.long q6), .second, .val (.long q7), .second, .val (.long q8), .second, .val (.long s2), .second] [(.long q1), (.long q7)])) _
        refine XS.lcmp X0.here hx rfl (hb hby d11_48) rfl ?_
        show Steps p.tables e below (s₁.setTop (mkF m 49 #[.val (.long q1), .second, .val (.int p2), .val (.long q3), .second, .val (.long q4), .second, .val (.long q5), .second, .val (.long q6), .second, .val (.long q7), .second, .val (.long q8), .second, .val (.long s2), .second] [(.int (lcmpW q7 q1))])) _
        refine XS.ifYes X0.here hx rfl (pc0 := 49) (pc' := 59) rfl (hb hby d11_49) rfl ((if0 _ _).trans (feq (own_lcne hj3_49)).2) (by decide) (by decide) ?_
        exact kt
  obtain ⟨fs, hr, hrun, hended, hW, hsame⟩ := X0.leave (v := some (.long s3)) (fun h => by rw [Bd.returns] at h; cases h)
  refine ⟨_, _, pre0 _ ?_, hrun, hended, _, _, rfl, ?_, ⟨_, rfl⟩, hW, hsame.mono (by decide) (by decide)⟩
  · show Steps p.tables e below (s₁.setTop (mkF m 0 #[.val (.long q1), .second, .val (.int p2), .val (.long q3), .second, .val (.long q4), .second, .val (.long q5), .second, .val (.long q6), .second, .val (.long q7), .second, .val (.long q8), .second, .unset, .unset] [])) _
    refine XS.lconst X0.here hx rfl (hb hby d11_0) ?_
    show Steps p.tables e below (s₁.setTop (mkF m 1 #[.val (.long q1), .second, .val (.int p2), .val (.long q3), .second, .val (.long q4), .second, .val (.long q5), .second, .val (.long q6), .second, .val (.long q7), .second, .val (.long q8), .second, .unset, .unset] [(.long (0 : Int64))])) _
    refine XS.lstore X0.here hx rfl (hb hby d11_1) rfl (l' := #[.val (.long q1), .second, .val (.int p2), .val (.long q3), .second, .val (.long q4), .second, .val (.long q5), .second, .val (.long q6), .second, .val (.long q7), .second, .val (.long q8), .second, .val (.long (0 : Int64)), .second]) rfl ?_
    show Steps p.tables e below (s₁.setTop (mkF m 3 #[.val (.long q1), .second, .val (.int p2), .val (.long q3), .second, .val (.long q4), .second, .val (.long q5), .second, .val (.long q6), .second, .val (.long q7), .second, .val (.long q8), .second, .val (.long (0 : Int64)), .second] [])) _
    refine sg1 _ ?_
    show Steps p.tables e below (s₁.setTop (mkF m 21 #[.val (.long q1), .second, .val (.int p2), .val (.long q3), .second, .val (.long q4), .second, .val (.long q5), .second, .val (.long q6), .second, .val (.long q7), .second, .val (.long q8), .second, .val (.long s1), .second] [])) _
    refine sg2 _ ?_
    show Steps p.tables e below (s₁.setTop (mkF m 40 #[.val (.long q1), .second, .val (.int p2), .val (.long q3), .second, .val (.long q4), .second, .val (.long q5), .second, .val (.long q6), .second, .val (.long q7), .second, .val (.long q8), .second, .val (.long s2), .second] [])) _
    refine sg3 _ ?_
    show Steps p.tables e below (s₁.setTop (mkF m 59 #[.val (.long q1), .second, .val (.int p2), .val (.long q3), .second, .val (.long q4), .second, .val (.long q5), .second, .val (.long q6), .second, .val (.long q7), .second, .val (.long q8), .second, .val (.long s3), .second] [])) _
    refine XS.lload X0.here hx rfl (hb hby d11_59) rfl ?_
    show Steps p.tables e below (s₁.setTop (mkF m 61 #[.val (.long q1), .second, .val (.int p2), .val (.long q3), .second, .val (.long q4), .second, .val (.long q5), .second, .val (.long q6), .second, .val (.long q7), .second, .val (.long q8), .second, .val (.long s3), .second] [(.long s3)])) _
    exact X0.lreturnOut hx Bd.returns (hb hby d11_61) hr
  · show Qrme Z q1 p2 q3 q4 q5 q6 q7 q8 h0 n0 _ s₁.heap _
    exact ⟨_, by rw [hs3, hs2, hs1]; rfl, rfl, N0, e0⟩
theorem pd_6 : parseMethodDescriptor "(JIJJJJJJ)J" = some ⟨[.long, .int, .long, .long, .long, .long, .long, .long], some .long⟩ := by decide +kernel
set_option maxRecDepth 65536 in
set_option maxHeartbeats 40000000 in
theorem own_tail {p : Program} {l : Launch} {e : Env} {s : State} {m : MethodId} {below : List Frame} {meth : Method} {c : Code} {T0 : State} {L0 : List Loc} {Z : State} {a0 : Array Value} {h0 : Heap} {n0 : Nat} {q1 q2 q3 q4 q5 q6 k1 k2 k3 w1 w2 w3 qz : Int64} {nn : Int32} {t a : Addr} {k : ClassId} {arr : List Int64} {n : Nat} {sh : Int32} {D : Int64 → Prop} {M : Int64 → Int64} {sz : Nat} (hx : p.tables.exec = Jvm.exec) (hZ : Z.Warmed39 s.vm) (hw : ∀ d ∈ tables_1, d.before a0 Z = true) (hby : c.code = code) (hml : c.maxLocals = 32) (hown : s.vm.findClass "com/example/pricewright/pricewright/core/LongSumTableGetPinLaw" = some m.cls) (X0 : Stand p l e room_1 s m #[.long q1, .long q2, .long q3, .long q4, .long q5, .long q6] below meth c T0 L0 8 72) (e0 : T0.heap = h0) (N0 : Fr n0 L0) (Z0 : n0 ≤ h0.size) (hn : (n = 4 ∧ sh = 62) ∨ (n = 8 ∧ sh = 61)) (E : Exa Z h0 t "com/example/pricewright/pricewright/core/LongSumTable") (FS : Fld Z h0 t "com/example/pricewright/pricewright/core/LongSumTable" "slots" "[J" (.ref a)) (FH : Fld Z h0 t "com/example/pricewright/pricewright/core/LongSumTable" "shift" "I" (.int sh)) (AV : Arv Z h0 a k .long (Int32.ofNat (2 * n)) (arr.map Value.long) (.long (0 : Int64))) (hfr : ∃ j, j < n ∧ own_K arr j = own_FREE) (Rp : own_Rep (own_K arr) (own_W arr) n (own_hs n) D M sz) (h1 : ¬ k1 = (-9223372036854775808 : Int64)) (h2 : ¬ k2 = (-9223372036854775808 : Int64)) (h3 : ¬ k3 = (-9223372036854775808 : Int64)) (h4 : ¬ qz = (-9223372036854775808 : Int64)) (HX : ∀ x, own_e1 (own_e1 (own_e1 (0 : Int64) nn (1 : Int32) k1 x w1) nn (2 : Int32) k2 x w2) nn (3 : Int32) k3 x w3 = M x) :
    ∃ (T' : State) (L' : List Loc), Stand p l e room_1 s m #[.long q1, .long q2, .long q3, .long q4, .long q5, .long q6] below meth c T' L' 8 72 ∧ Fr n0 L' ∧ ∀ target, Steps p.tables e below (T'.setTop (mkF m 280 #[.val (.long q1), .second, .val (.long q2), .second, .val (.long q3), .second, .val (.long q4), .second, .val (.long q5), .second, .val (.long q6), .second, .val (.long k1), .second, .val (.long k2), .second, .val (.long k3), .second, .val (.long w1), .second, .val (.long w2), .second, .val (.long w3), .second, .val (.int nn), .val (.long qz), .second, .val (.ref t), .val (.int (1 : Int32)), .val (.int (1 : Int32)), .val (.int (1 : Int32)), .val (.int (1 : Int32))] [(.int (1 : Int32))])) target → Steps p.tables e below (T0.setTop (mkF m 107 #[.val (.long q1), .second, .val (.long q2), .second, .val (.long q3), .second, .val (.long q4), .second, .val (.long q5), .second, .val (.long q6), .second, .val (.long k1), .second, .val (.long k2), .second, .val (.long k3), .second, .val (.long w1), .second, .val (.long w2), .second, .val (.long w3), .second, .val (.int nn), .val (.long qz), .second, .val (.ref t), .unset, .unset, .unset, .unset] [])) target := by
  obtain ⟨cq1, kq1, q1a, q1b, q1c⟩ := isOf hZ e0 E
  obtain ⟨_, _, ⟨T1, L1, k1, n1⟩, -, X1, ⟨Lc1, hQ1, l1, y1, z1⟩, st1⟩ := X0.virtualBack hx (y := (⟨"com/example/pricewright/pricewright/core/LongSumTable", "get", "(J)J"⟩ : MethodName)) (z := (⟨"com/example/pricewright/pricewright/core/LongSumTable", "get", "(J)J"⟩ : MethodName)) hown (mvT hZ (hw _ (List.mem_of_getElem? (i := 50) rfl))) (mvT hZ (hw _ (List.mem_of_getElem? (i := 51) rfl))) (notFace_of_selects (args := #[]) (mvT hZ (hw _ (List.mem_of_getElem? (i := 53) rfl)))) (mvT hZ (hw _ (List.mem_of_getElem? (i := 53) rfl))) (mvT hZ (hw _ (List.mem_of_getElem? (i := 52) rfl))) (by decide) (backOf (W := 0) (rmG l Z a0 hw [] t k1 a k (arr) n sh h0 n0 Z0 hn E FS FH AV hfr) hZ (hw _ (List.mem_of_getElem? (i := 54) rfl)) (hw _ (List.mem_of_getElem? (i := 8) rfl)) (by decide) (by decide)) q1a q1c (g := (mkF m 111 #[.val (.long q1), .second, .val (.long q2), .second, .val (.long q3), .second, .val (.long q4), .second, .val (.long q5), .second, .val (.long q6), .second, .val (.long k1), .second, .val (.long k2), .second, .val (.long k3), .second, .val (.long w1), .second, .val (.long w2), .second, .val (.long w3), .second, .val (.int nn), .val (.long qz), .second, .val (.ref t), .unset, .unset, .unset, .unset] [(.long k1), (.ref t)])) rfl (by rw [hml]; rfl) (Steps.refl _) (argsL := [(.long k1)]) (rest := []) (lenOf pd_4 rfl) rfl (by show 2 * 0 + _ ≤ _; exact Nat.le_of_eq rfl) (hb hby at_111) (fun _ _ => ⟨rfl, e0, (by decide : 8 + 0 ≤ _), (by decide : 72 + 0 ≤ _)⟩)
  dsimp only [Pt.U, Pt.locs, Pt.cells, Pt.slots] at X1 l1 y1 z1 st1 hQ1
  subst l1 y1 z1
  obtain ⟨r1, hr1, rfl, N1q, e1⟩ := hQ1
  have N1 := Fr.app N0 N1q
  obtain ⟨ig1, hig1, Pg1, hv1⟩ := hr1
  have hg1 : r1 = M k1 := by rw [hv1]; exact own_rep_get Rp hig1 h1 Pg1
  obtain ⟨_, _, ⟨T2, L2, k2, n2⟩, -, X2, ⟨Lc2, hQ2, l2, y2, z2⟩, st2⟩ := Jvm.LawKit.callS X1 hx (y := (⟨"com/example/pricewright/pricewright/core/LongSumTableGetPinLaw", "expect", "(JIJJJJJJ)J"⟩ : MethodName)) hown (mvT hZ (hw _ (List.mem_of_getElem? (i := 55) rfl))) (mvT hZ (hw _ (List.mem_of_getElem? (i := 56) rfl))) (mvT hZ (hw _ (List.mem_of_getElem? (i := 2) rfl))) (mvT hZ (hw _ (List.mem_of_getElem? (i := 57) rfl))) (by decide) (backOf (W := 2) (rme l Z a0 hw [] k1 nn k1 w1 k2 w2 k3 w3  h0 n0 Z0 ) hZ (hw _ (List.mem_of_getElem? (i := 57) rfl)) (hw _ (List.mem_of_getElem? (i := 2) rfl)) (by decide) (by decide)) (g := (mkF m 130 #[.val (.long q1), .second, .val (.long q2), .second, .val (.long q3), .second, .val (.long q4), .second, .val (.long q5), .second, .val (.long q6), .second, .val (.long k1), .second, .val (.long k2), .second, .val (.long k3), .second, .val (.long w1), .second, .val (.long w2), .second, .val (.long w3), .second, .val (.int nn), .val (.long qz), .second, .val (.ref t), .unset, .unset, .unset, .unset] [(.long w3), (.long k3), (.long w2), (.long k2), (.long w1), (.long k1), (.int nn), (.long k1), (.long r1)])) rfl (by rw [hml]; rfl) (argsL := [(.long k1), (.int nn), (.long k1), (.long w1), (.long k2), (.long w2), (.long k3), (.long w3)]) (rest := [(.long r1)]) (lenOf pd_6 rfl) rfl (by show 2 * 0 + _ ≤ _; exact Nat.le_of_eq rfl) (hb hby at_130) (fun _ _ => ⟨rfl, e1, (by decide : 8 + 0 ≤ _), (by decide : 72 + 0 ≤ _)⟩)
  dsimp only [Pt.U, Pt.locs, Pt.cells, Pt.slots] at X2 l2 y2 z2 st2 hQ2
  subst l2 y2 z2
  obtain ⟨r2, hr2, rfl, N2q, e2⟩ := hQ2
  have N2 := Fr.app N1 N2q
  obtain ⟨cq3, kq3, q3a, q3b, q3c⟩ := isOf hZ e2 E
  obtain ⟨_, _, ⟨T3, L3, k3, n3⟩, -, X3, ⟨Lc3, hQ3, l3, y3, z3⟩, st3⟩ := X2.virtualBack hx (y := (⟨"com/example/pricewright/pricewright/core/LongSumTable", "get", "(J)J"⟩ : MethodName)) (z := (⟨"com/example/pricewright/pricewright/core/LongSumTable", "get", "(J)J"⟩ : MethodName)) hown (mvT hZ (hw _ (List.mem_of_getElem? (i := 50) rfl))) (mvT hZ (hw _ (List.mem_of_getElem? (i := 51) rfl))) (notFace_of_selects (args := #[]) (mvT hZ (hw _ (List.mem_of_getElem? (i := 53) rfl)))) (mvT hZ (hw _ (List.mem_of_getElem? (i := 53) rfl))) (mvT hZ (hw _ (List.mem_of_getElem? (i := 52) rfl))) (by decide) (backOf (W := 0) (rmG l Z a0 hw [] t k2 a k (arr) n sh h0 n0 Z0 hn E FS FH AV hfr) hZ (hw _ (List.mem_of_getElem? (i := 54) rfl)) (hw _ (List.mem_of_getElem? (i := 8) rfl)) (by decide) (by decide)) q3a q3c (g := (mkF m 148 #[.val (.long q1), .second, .val (.long q2), .second, .val (.long q3), .second, .val (.long q4), .second, .val (.long q5), .second, .val (.long q6), .second, .val (.long k1), .second, .val (.long k2), .second, .val (.long k3), .second, .val (.long w1), .second, .val (.long w2), .second, .val (.long w3), .second, .val (.int nn), .val (.long qz), .second, .val (.ref t), .val (.int (1 : Int32)), .unset, .unset, .unset] [(.long k2), (.ref t)])) rfl (by rw [hml]; rfl) (Steps.refl _) (argsL := [(.long k2)]) (rest := []) (lenOf pd_4 rfl) rfl (by show 2 * 0 + _ ≤ _; exact Nat.le_of_eq rfl) (hb hby at_148) (fun _ _ => ⟨rfl, e2, (by decide : 8 + 0 ≤ _), (by decide : 72 + 0 ≤ _)⟩)
  dsimp only [Pt.U, Pt.locs, Pt.cells, Pt.slots] at X3 l3 y3 z3 st3 hQ3
  subst l3 y3 z3
  obtain ⟨r3, hr3, rfl, N3q, e3⟩ := hQ3
  have N3 := Fr.app N2 N3q
  obtain ⟨ig3, hig3, Pg3, hv3⟩ := hr3
  have hg3 : r3 = M k2 := by rw [hv3]; exact own_rep_get Rp hig3 h2 Pg3
  obtain ⟨_, _, ⟨T4, L4, k4, n4⟩, -, X4, ⟨Lc4, hQ4, l4, y4, z4⟩, st4⟩ := Jvm.LawKit.callS X3 hx (y := (⟨"com/example/pricewright/pricewright/core/LongSumTableGetPinLaw", "expect", "(JIJJJJJJ)J"⟩ : MethodName)) hown (mvT hZ (hw _ (List.mem_of_getElem? (i := 55) rfl))) (mvT hZ (hw _ (List.mem_of_getElem? (i := 56) rfl))) (mvT hZ (hw _ (List.mem_of_getElem? (i := 2) rfl))) (mvT hZ (hw _ (List.mem_of_getElem? (i := 57) rfl))) (by decide) (backOf (W := 2) (rme l Z a0 hw [] k2 nn k1 w1 k2 w2 k3 w3  h0 n0 Z0 ) hZ (hw _ (List.mem_of_getElem? (i := 57) rfl)) (hw _ (List.mem_of_getElem? (i := 2) rfl)) (by decide) (by decide)) (g := (mkF m 167 #[.val (.long q1), .second, .val (.long q2), .second, .val (.long q3), .second, .val (.long q4), .second, .val (.long q5), .second, .val (.long q6), .second, .val (.long k1), .second, .val (.long k2), .second, .val (.long k3), .second, .val (.long w1), .second, .val (.long w2), .second, .val (.long w3), .second, .val (.int nn), .val (.long qz), .second, .val (.ref t), .val (.int (1 : Int32)), .unset, .unset, .unset] [(.long w3), (.long k3), (.long w2), (.long k2), (.long w1), (.long k1), (.int nn), (.long k2), (.long r3)])) rfl (by rw [hml]; rfl) (argsL := [(.long k2), (.int nn), (.long k1), (.long w1), (.long k2), (.long w2), (.long k3), (.long w3)]) (rest := [(.long r3)]) (lenOf pd_6 rfl) rfl (by show 2 * 0 + _ ≤ _; exact Nat.le_of_eq rfl) (hb hby at_167) (fun _ _ => ⟨rfl, e3, (by decide : 8 + 0 ≤ _), (by decide : 72 + 0 ≤ _)⟩)
  dsimp only [Pt.U, Pt.locs, Pt.cells, Pt.slots] at X4 l4 y4 z4 st4 hQ4
  subst l4 y4 z4
  obtain ⟨r4, hr4, rfl, N4q, e4⟩ := hQ4
  have N4 := Fr.app N3 N4q
  obtain ⟨cq5, kq5, q5a, q5b, q5c⟩ := isOf hZ e4 E
  obtain ⟨_, _, ⟨T5, L5, k5, n5⟩, -, X5, ⟨Lc5, hQ5, l5, y5, z5⟩, st5⟩ := X4.virtualBack hx (y := (⟨"com/example/pricewright/pricewright/core/LongSumTable", "get", "(J)J"⟩ : MethodName)) (z := (⟨"com/example/pricewright/pricewright/core/LongSumTable", "get", "(J)J"⟩ : MethodName)) hown (mvT hZ (hw _ (List.mem_of_getElem? (i := 50) rfl))) (mvT hZ (hw _ (List.mem_of_getElem? (i := 51) rfl))) (notFace_of_selects (args := #[]) (mvT hZ (hw _ (List.mem_of_getElem? (i := 53) rfl)))) (mvT hZ (hw _ (List.mem_of_getElem? (i := 53) rfl))) (mvT hZ (hw _ (List.mem_of_getElem? (i := 52) rfl))) (by decide) (backOf (W := 0) (rmG l Z a0 hw [] t k3 a k (arr) n sh h0 n0 Z0 hn E FS FH AV hfr) hZ (hw _ (List.mem_of_getElem? (i := 54) rfl)) (hw _ (List.mem_of_getElem? (i := 8) rfl)) (by decide) (by decide)) q5a q5c (g := (mkF m 185 #[.val (.long q1), .second, .val (.long q2), .second, .val (.long q3), .second, .val (.long q4), .second, .val (.long q5), .second, .val (.long q6), .second, .val (.long k1), .second, .val (.long k2), .second, .val (.long k3), .second, .val (.long w1), .second, .val (.long w2), .second, .val (.long w3), .second, .val (.int nn), .val (.long qz), .second, .val (.ref t), .val (.int (1 : Int32)), .val (.int (1 : Int32)), .unset, .unset] [(.long k3), (.ref t)])) rfl (by rw [hml]; rfl) (Steps.refl _) (argsL := [(.long k3)]) (rest := []) (lenOf pd_4 rfl) rfl (by show 2 * 0 + _ ≤ _; exact Nat.le_of_eq rfl) (hb hby at_185) (fun _ _ => ⟨rfl, e4, (by decide : 8 + 0 ≤ _), (by decide : 72 + 0 ≤ _)⟩)
  dsimp only [Pt.U, Pt.locs, Pt.cells, Pt.slots] at X5 l5 y5 z5 st5 hQ5
  subst l5 y5 z5
  obtain ⟨r5, hr5, rfl, N5q, e5⟩ := hQ5
  have N5 := Fr.app N4 N5q
  obtain ⟨ig5, hig5, Pg5, hv5⟩ := hr5
  have hg5 : r5 = M k3 := by rw [hv5]; exact own_rep_get Rp hig5 h3 Pg5
  obtain ⟨_, _, ⟨T6, L6, k6, n6⟩, -, X6, ⟨Lc6, hQ6, l6, y6, z6⟩, st6⟩ := Jvm.LawKit.callS X5 hx (y := (⟨"com/example/pricewright/pricewright/core/LongSumTableGetPinLaw", "expect", "(JIJJJJJJ)J"⟩ : MethodName)) hown (mvT hZ (hw _ (List.mem_of_getElem? (i := 55) rfl))) (mvT hZ (hw _ (List.mem_of_getElem? (i := 56) rfl))) (mvT hZ (hw _ (List.mem_of_getElem? (i := 2) rfl))) (mvT hZ (hw _ (List.mem_of_getElem? (i := 57) rfl))) (by decide) (backOf (W := 2) (rme l Z a0 hw [] k3 nn k1 w1 k2 w2 k3 w3  h0 n0 Z0 ) hZ (hw _ (List.mem_of_getElem? (i := 57) rfl)) (hw _ (List.mem_of_getElem? (i := 2) rfl)) (by decide) (by decide)) (g := (mkF m 204 #[.val (.long q1), .second, .val (.long q2), .second, .val (.long q3), .second, .val (.long q4), .second, .val (.long q5), .second, .val (.long q6), .second, .val (.long k1), .second, .val (.long k2), .second, .val (.long k3), .second, .val (.long w1), .second, .val (.long w2), .second, .val (.long w3), .second, .val (.int nn), .val (.long qz), .second, .val (.ref t), .val (.int (1 : Int32)), .val (.int (1 : Int32)), .unset, .unset] [(.long w3), (.long k3), (.long w2), (.long k2), (.long w1), (.long k1), (.int nn), (.long k3), (.long r5)])) rfl (by rw [hml]; rfl) (argsL := [(.long k3), (.int nn), (.long k1), (.long w1), (.long k2), (.long w2), (.long k3), (.long w3)]) (rest := [(.long r5)]) (lenOf pd_6 rfl) rfl (by show 2 * 0 + _ ≤ _; exact Nat.le_of_eq rfl) (hb hby at_204) (fun _ _ => ⟨rfl, e5, (by decide : 8 + 0 ≤ _), (by decide : 72 + 0 ≤ _)⟩)
  dsimp only [Pt.U, Pt.locs, Pt.cells, Pt.slots] at X6 l6 y6 z6 st6 hQ6
  subst l6 y6 z6
  obtain ⟨r6, hr6, rfl, N6q, e6⟩ := hQ6
  have N6 := Fr.app N5 N6q
  obtain ⟨cq7, kq7, q7a, q7b, q7c⟩ := isOf hZ e6 E
  obtain ⟨_, _, ⟨T7, L7, k7, n7⟩, -, X7, ⟨Lc7, hQ7, l7, y7, z7⟩, st7⟩ := X6.virtualBack hx (y := (⟨"com/example/pricewright/pricewright/core/LongSumTable", "get", "(J)J"⟩ : MethodName)) (z := (⟨"com/example/pricewright/pricewright/core/LongSumTable", "get", "(J)J"⟩ : MethodName)) hown (mvT hZ (hw _ (List.mem_of_getElem? (i := 50) rfl))) (mvT hZ (hw _ (List.mem_of_getElem? (i := 51) rfl))) (notFace_of_selects (args := #[]) (mvT hZ (hw _ (List.mem_of_getElem? (i := 53) rfl)))) (mvT hZ (hw _ (List.mem_of_getElem? (i := 53) rfl))) (mvT hZ (hw _ (List.mem_of_getElem? (i := 52) rfl))) (by decide) (backOf (W := 0) (rmG l Z a0 hw [] t qz a k (arr) n sh h0 n0 Z0 hn E FS FH AV hfr) hZ (hw _ (List.mem_of_getElem? (i := 54) rfl)) (hw _ (List.mem_of_getElem? (i := 8) rfl)) (by decide) (by decide)) q7a q7c (g := (mkF m 222 #[.val (.long q1), .second, .val (.long q2), .second, .val (.long q3), .second, .val (.long q4), .second, .val (.long q5), .second, .val (.long q6), .second, .val (.long k1), .second, .val (.long k2), .second, .val (.long k3), .second, .val (.long w1), .second, .val (.long w2), .second, .val (.long w3), .second, .val (.int nn), .val (.long qz), .second, .val (.ref t), .val (.int (1 : Int32)), .val (.int (1 : Int32)), .val (.int (1 : Int32)), .unset] [(.long qz), (.ref t)])) rfl (by rw [hml]; rfl) (Steps.refl _) (argsL := [(.long qz)]) (rest := []) (lenOf pd_4 rfl) rfl (by show 2 * 0 + _ ≤ _; exact Nat.le_of_eq rfl) (hb hby at_222) (fun _ _ => ⟨rfl, e6, (by decide : 8 + 0 ≤ _), (by decide : 72 + 0 ≤ _)⟩)
  dsimp only [Pt.U, Pt.locs, Pt.cells, Pt.slots] at X7 l7 y7 z7 st7 hQ7
  subst l7 y7 z7
  obtain ⟨r7, hr7, rfl, N7q, e7⟩ := hQ7
  have N7 := Fr.app N6 N7q
  obtain ⟨ig7, hig7, Pg7, hv7⟩ := hr7
  have hg7 : r7 = M qz := by rw [hv7]; exact own_rep_get Rp hig7 h4 Pg7
  obtain ⟨_, _, ⟨T8, L8, k8, n8⟩, -, X8, ⟨Lc8, hQ8, l8, y8, z8⟩, st8⟩ := Jvm.LawKit.callS X7 hx (y := (⟨"com/example/pricewright/pricewright/core/LongSumTableGetPinLaw", "expect", "(JIJJJJJJ)J"⟩ : MethodName)) hown (mvT hZ (hw _ (List.mem_of_getElem? (i := 55) rfl))) (mvT hZ (hw _ (List.mem_of_getElem? (i := 56) rfl))) (mvT hZ (hw _ (List.mem_of_getElem? (i := 2) rfl))) (mvT hZ (hw _ (List.mem_of_getElem? (i := 57) rfl))) (by decide) (backOf (W := 2) (rme l Z a0 hw [] qz nn k1 w1 k2 w2 k3 w3  h0 n0 Z0 ) hZ (hw _ (List.mem_of_getElem? (i := 57) rfl)) (hw _ (List.mem_of_getElem? (i := 2) rfl)) (by decide) (by decide)) (g := (mkF m 241 #[.val (.long q1), .second, .val (.long q2), .second, .val (.long q3), .second, .val (.long q4), .second, .val (.long q5), .second, .val (.long q6), .second, .val (.long k1), .second, .val (.long k2), .second, .val (.long k3), .second, .val (.long w1), .second, .val (.long w2), .second, .val (.long w3), .second, .val (.int nn), .val (.long qz), .second, .val (.ref t), .val (.int (1 : Int32)), .val (.int (1 : Int32)), .val (.int (1 : Int32)), .unset] [(.long w3), (.long k3), (.long w2), (.long k2), (.long w1), (.long k1), (.int nn), (.long qz), (.long r7)])) rfl (by rw [hml]; rfl) (argsL := [(.long qz), (.int nn), (.long k1), (.long w1), (.long k2), (.long w2), (.long k3), (.long w3)]) (rest := [(.long r7)]) (lenOf pd_6 rfl) rfl (by show 2 * 0 + _ ≤ _; exact Nat.le_of_eq rfl) (hb hby at_241) (fun _ _ => ⟨rfl, e7, (by decide : 8 + 0 ≤ _), (by decide : 72 + 0 ≤ _)⟩)
  dsimp only [Pt.U, Pt.locs, Pt.cells, Pt.slots] at X8 l8 y8 z8 st8 hQ8
  subst l8 y8 z8
  obtain ⟨r8, hr8, rfl, N8q, e8⟩ := hQ8
  have N8 := Fr.app N7 N8q
  refine ⟨T8, _, X8, N8, fun target kt => ?_⟩
  show Steps p.tables e below (T0.setTop (mkF m 107 #[.val (.long q1), .second, .val (.long q2), .second, .val (.long q3), .second, .val (.long q4), .second, .val (.long q5), .second, .val (.long q6), .second, .val (.long k1), .second, .val (.long k2), .second, .val (.long k3), .second, .val (.long w1), .second, .val (.long w2), .second, .val (.long w3), .second, .val (.int nn), .val (.long qz), .second, .val (.ref t), .unset, .unset, .unset, .unset] [])) _
  refine XS.aload X0.here hx rfl (hb hby at_107) rfl rfl ?_
  show Steps p.tables e below (T0.setTop (mkF m 109 #[.val (.long q1), .second, .val (.long q2), .second, .val (.long q3), .second, .val (.long q4), .second, .val (.long q5), .second, .val (.long q6), .second, .val (.long k1), .second, .val (.long k2), .second, .val (.long k3), .second, .val (.long w1), .second, .val (.long w2), .second, .val (.long w3), .second, .val (.int nn), .val (.long qz), .second, .val (.ref t), .unset, .unset, .unset, .unset] [(.ref t)])) _
  refine XS.lload X0.here hx rfl (hb hby at_109) rfl ?_
  show Steps p.tables e below (T0.setTop (mkF m 111 #[.val (.long q1), .second, .val (.long q2), .second, .val (.long q3), .second, .val (.long q4), .second, .val (.long q5), .second, .val (.long q6), .second, .val (.long k1), .second, .val (.long k2), .second, .val (.long k3), .second, .val (.long w1), .second, .val (.long w2), .second, .val (.long w3), .second, .val (.int nn), .val (.long qz), .second, .val (.ref t), .unset, .unset, .unset, .unset] [(.long k1), (.ref t)])) _
  refine st1.trans ?_
  show Steps p.tables e below (T1.setTop (mkF m 114 #[.val (.long q1), .second, .val (.long q2), .second, .val (.long q3), .second, .val (.long q4), .second, .val (.long q5), .second, .val (.long q6), .second, .val (.long k1), .second, .val (.long k2), .second, .val (.long k3), .second, .val (.long w1), .second, .val (.long w2), .second, .val (.long w3), .second, .val (.int nn), .val (.long qz), .second, .val (.ref t), .unset, .unset, .unset, .unset] [(.long r1)])) _
  refine XS.lload X1.here hx rfl (hb hby at_114) rfl ?_
  show Steps p.tables e below (T1.setTop (mkF m 116 #[.val (.long q1), .second, .val (.long q2), .second, .val (.long q3), .second, .val (.long q4), .second, .val (.long q5), .second, .val (.long q6), .second, .val (.long k1), .second, .val (.long k2), .second, .val (.long k3), .second, .val (.long w1), .second, .val (.long w2), .second, .val (.long w3), .second, .val (.int nn), .val (.long qz), .second, .val (.ref t), .unset, .unset, .unset, .unset] [(.long k1), (.long r1)])) _
  refine XS.iload X1.here hx rfl (hb hby at_116) rfl ?_
  show Steps p.tables e below (T1.setTop (mkF m 118 #[.val (.long q1), .second, .val (.long q2), .second, .val (.long q3), .second, .val (.long q4), .second, .val (.long q5), .second, .val (.long q6), .second, .val (.long k1), .second, .val (.long k2), .second, .val (.long k3), .second, .val (.long w1), .second, .val (.long w2), .second, .val (.long w3), .second, .val (.int nn), .val (.long qz), .second, .val (.ref t), .unset, .unset, .unset, .unset] [(.int nn), (.long k1), (.long r1)])) _
  refine XS.lload X1.here hx rfl (hb hby at_118) rfl ?_
  show Steps p.tables e below (T1.setTop (mkF m 120 #[.val (.long q1), .second, .val (.long q2), .second, .val (.long q3), .second, .val (.long q4), .second, .val (.long q5), .second, .val (.long q6), .second, .val (.long k1), .second, .val (.long k2), .second, .val (.long k3), .second, .val (.long w1), .second, .val (.long w2), .second, .val (.long w3), .second, .val (.int nn), .val (.long qz), .second, .val (.ref t), .unset, .unset, .unset, .unset] [(.long k1), (.int nn), (.long k1), (.long r1)])) _
  refine XS.lload X1.here hx rfl (hb hby at_120) rfl ?_
  show Steps p.tables e below (T1.setTop (mkF m 122 #[.val (.long q1), .second, .val (.long q2), .second, .val (.long q3), .second, .val (.long q4), .second, .val (.long q5), .second, .val (.long q6), .second, .val (.long k1), .second, .val (.long k2), .second, .val (.long k3), .second, .val (.long w1), .second, .val (.long w2), .second, .val (.long w3), .second, .val (.int nn), .val (.long qz), .second, .val (.ref t), .unset, .unset, .unset, .unset] [(.long w1), (.long k1), (.int nn), (.long k1), (.long r1)])) _
  refine XS.lload X1.here hx rfl (hb hby at_122) rfl ?_
  show Steps p.tables e below (T1.setTop (mkF m 124 #[.val (.long q1), .second, .val (.long q2), .second, .val (.long q3), .second, .val (.long q4), .second, .val (.long q5), .second, .val (.long q6), .second, .val (.long k1), .second, .val (.long k2), .second, .val (.long k3), .second, .val (.long w1), .second, .val (.long w2), .second, .val (.long w3), .second, .val (.int nn), .val (.long qz), .second, .val (.ref t), .unset, .unset, .unset, .unset] [(.long k2), (.long w1), (.long k1), (.int nn), (.long k1), (.long r1)])) _
  refine XS.lload X1.here hx rfl (hb hby at_124) rfl ?_
  show Steps p.tables e below (T1.setTop (mkF m 126 #[.val (.long q1), .second, .val (.long q2), .second, .val (.long q3), .second, .val (.long q4), .second, .val (.long q5), .second, .val (.long q6), .second, .val (.long k1), .second, .val (.long k2), .second, .val (.long k3), .second, .val (.long w1), .second, .val (.long w2), .second, .val (.long w3), .second, .val (.int nn), .val (.long qz), .second, .val (.ref t), .unset, .unset, .unset, .unset] [(.long w2), (.long k2), (.long w1), (.long k1), (.int nn), (.long k1), (.long r1)])) _
  refine XS.lload X1.here hx rfl (hb hby at_126) rfl ?_
  show Steps p.tables e below (T1.setTop (mkF m 128 #[.val (.long q1), .second, .val (.long q2), .second, .val (.long q3), .second, .val (.long q4), .second, .val (.long q5), .second, .val (.long q6), .second, .val (.long k1), .second, .val (.long k2), .second, .val (.long k3), .second, .val (.long w1), .second, .val (.long w2), .second, .val (.long w3), .second, .val (.int nn), .val (.long qz), .second, .val (.ref t), .unset, .unset, .unset, .unset] [(.long k3), (.long w2), (.long k2), (.long w1), (.long k1), (.int nn), (.long k1), (.long r1)])) _
  refine XS.lload X1.here hx rfl (hb hby at_128) rfl ?_
  show Steps p.tables e below (T1.setTop (mkF m 130 #[.val (.long q1), .second, .val (.long q2), .second, .val (.long q3), .second, .val (.long q4), .second, .val (.long q5), .second, .val (.long q6), .second, .val (.long k1), .second, .val (.long k2), .second, .val (.long k3), .second, .val (.long w1), .second, .val (.long w2), .second, .val (.long w3), .second, .val (.int nn), .val (.long qz), .second, .val (.ref t), .unset, .unset, .unset, .unset] [(.long w3), (.long k3), (.long w2), (.long k2), (.long w1), (.long k1), (.int nn), (.long k1), (.long r1)])) _
  refine st2 _ ?_
  show Steps p.tables e below (T2.setTop (mkF m 133 #[.val (.long q1), .second, .val (.long q2), .second, .val (.long q3), .second, .val (.long q4), .second, .val (.long q5), .second, .val (.long q6), .second, .val (.long k1), .second, .val (.long k2), .second, .val (.long k3), .second, .val (.long w1), .second, .val (.long w2), .second, .val (.long w3), .second, .val (.int nn), .val (.long qz), .second, .val (.ref t), .unset, .unset, .unset, .unset] [(.long r2), (.long r1)])) _
  refine XS.lcmp X2.here hx rfl (hb hby at_133) rfl ?_
  show Steps p.tables e below (T2.setTop (mkF m 134 #[.val (.long q1), .second, .val (.long q2), .second, .val (.long q3), .second, .val (.long q4), .second, .val (.long q5), .second, .val (.long q6), .second, .val (.long k1), .second, .val (.long k2), .second, .val (.long k3), .second, .val (.long w1), .second, .val (.long w2), .second, .val (.long w3), .second, .val (.int nn), .val (.long qz), .second, .val (.ref t), .unset, .unset, .unset, .unset] [(.int (lcmpW r1 r2))])) _
  refine XS.ifNo X2.here hx rfl (hb hby at_134) rfl ((if0 _ _).trans (teq (own_lceq (by rw [hg1, hr2]; exact (HX _).symm))).2) ?_
  show Steps p.tables e below (T2.setTop (mkF m 137 #[.val (.long q1), .second, .val (.long q2), .second, .val (.long q3), .second, .val (.long q4), .second, .val (.long q5), .second, .val (.long q6), .second, .val (.long k1), .second, .val (.long k2), .second, .val (.long k3), .second, .val (.long w1), .second, .val (.long w2), .second, .val (.long w3), .second, .val (.int nn), .val (.long qz), .second, .val (.ref t), .unset, .unset, .unset, .unset] [])) _
  refine XS.iconst X2.here hx rfl (hb hby at_137) ?_
  show Steps p.tables e below (T2.setTop (mkF m 138 #[.val (.long q1), .second, .val (.long q2), .second, .val (.long q3), .second, .val (.long q4), .second, .val (.long q5), .second, .val (.long q6), .second, .val (.long k1), .second, .val (.long k2), .second, .val (.long k3), .second, .val (.long w1), .second, .val (.long w2), .second, .val (.long w3), .second, .val (.int nn), .val (.long qz), .second, .val (.ref t), .unset, .unset, .unset, .unset] [(.int (1 : Int32))])) _
  refine XS.goto X2.here hx rfl (pc0 := 138) (pc' := 142) rfl (hb hby at_138) (by decide) (by decide) ?_
  show Steps p.tables e below (T2.setTop (mkF m 142 #[.val (.long q1), .second, .val (.long q2), .second, .val (.long q3), .second, .val (.long q4), .second, .val (.long q5), .second, .val (.long q6), .second, .val (.long k1), .second, .val (.long k2), .second, .val (.long k3), .second, .val (.long w1), .second, .val (.long w2), .second, .val (.long w3), .second, .val (.int nn), .val (.long qz), .second, .val (.ref t), .unset, .unset, .unset, .unset] [(.int (1 : Int32))])) _
  refine XS.istore X2.here hx rfl (hb hby at_142) rfl (l' := #[.val (.long q1), .second, .val (.long q2), .second, .val (.long q3), .second, .val (.long q4), .second, .val (.long q5), .second, .val (.long q6), .second, .val (.long k1), .second, .val (.long k2), .second, .val (.long k3), .second, .val (.long w1), .second, .val (.long w2), .second, .val (.long w3), .second, .val (.int nn), .val (.long qz), .second, .val (.ref t), .val (.int (1 : Int32)), .unset, .unset, .unset]) rfl ?_
  show Steps p.tables e below (T2.setTop (mkF m 144 #[.val (.long q1), .second, .val (.long q2), .second, .val (.long q3), .second, .val (.long q4), .second, .val (.long q5), .second, .val (.long q6), .second, .val (.long k1), .second, .val (.long k2), .second, .val (.long k3), .second, .val (.long w1), .second, .val (.long w2), .second, .val (.long w3), .second, .val (.int nn), .val (.long qz), .second, .val (.ref t), .val (.int (1 : Int32)), .unset, .unset, .unset] [])) _
  refine XS.aload X2.here hx rfl (hb hby at_144) rfl rfl ?_
  show Steps p.tables e below (T2.setTop (mkF m 146 #[.val (.long q1), .second, .val (.long q2), .second, .val (.long q3), .second, .val (.long q4), .second, .val (.long q5), .second, .val (.long q6), .second, .val (.long k1), .second, .val (.long k2), .second, .val (.long k3), .second, .val (.long w1), .second, .val (.long w2), .second, .val (.long w3), .second, .val (.int nn), .val (.long qz), .second, .val (.ref t), .val (.int (1 : Int32)), .unset, .unset, .unset] [(.ref t)])) _
  refine XS.lload X2.here hx rfl (hb hby at_146) rfl ?_
  show Steps p.tables e below (T2.setTop (mkF m 148 #[.val (.long q1), .second, .val (.long q2), .second, .val (.long q3), .second, .val (.long q4), .second, .val (.long q5), .second, .val (.long q6), .second, .val (.long k1), .second, .val (.long k2), .second, .val (.long k3), .second, .val (.long w1), .second, .val (.long w2), .second, .val (.long w3), .second, .val (.int nn), .val (.long qz), .second, .val (.ref t), .val (.int (1 : Int32)), .unset, .unset, .unset] [(.long k2), (.ref t)])) _
  refine st3.trans ?_
  show Steps p.tables e below (T3.setTop (mkF m 151 #[.val (.long q1), .second, .val (.long q2), .second, .val (.long q3), .second, .val (.long q4), .second, .val (.long q5), .second, .val (.long q6), .second, .val (.long k1), .second, .val (.long k2), .second, .val (.long k3), .second, .val (.long w1), .second, .val (.long w2), .second, .val (.long w3), .second, .val (.int nn), .val (.long qz), .second, .val (.ref t), .val (.int (1 : Int32)), .unset, .unset, .unset] [(.long r3)])) _
  refine XS.lload X3.here hx rfl (hb hby at_151) rfl ?_
  show Steps p.tables e below (T3.setTop (mkF m 153 #[.val (.long q1), .second, .val (.long q2), .second, .val (.long q3), .second, .val (.long q4), .second, .val (.long q5), .second, .val (.long q6), .second, .val (.long k1), .second, .val (.long k2), .second, .val (.long k3), .second, .val (.long w1), .second, .val (.long w2), .second, .val (.long w3), .second, .val (.int nn), .val (.long qz), .second, .val (.ref t), .val (.int (1 : Int32)), .unset, .unset, .unset] [(.long k2), (.long r3)])) _
  refine XS.iload X3.here hx rfl (hb hby at_153) rfl ?_
  show Steps p.tables e below (T3.setTop (mkF m 155 #[.val (.long q1), .second, .val (.long q2), .second, .val (.long q3), .second, .val (.long q4), .second, .val (.long q5), .second, .val (.long q6), .second, .val (.long k1), .second, .val (.long k2), .second, .val (.long k3), .second, .val (.long w1), .second, .val (.long w2), .second, .val (.long w3), .second, .val (.int nn), .val (.long qz), .second, .val (.ref t), .val (.int (1 : Int32)), .unset, .unset, .unset] [(.int nn), (.long k2), (.long r3)])) _
  refine XS.lload X3.here hx rfl (hb hby at_155) rfl ?_
  show Steps p.tables e below (T3.setTop (mkF m 157 #[.val (.long q1), .second, .val (.long q2), .second, .val (.long q3), .second, .val (.long q4), .second, .val (.long q5), .second, .val (.long q6), .second, .val (.long k1), .second, .val (.long k2), .second, .val (.long k3), .second, .val (.long w1), .second, .val (.long w2), .second, .val (.long w3), .second, .val (.int nn), .val (.long qz), .second, .val (.ref t), .val (.int (1 : Int32)), .unset, .unset, .unset] [(.long k1), (.int nn), (.long k2), (.long r3)])) _
  refine XS.lload X3.here hx rfl (hb hby at_157) rfl ?_
  show Steps p.tables e below (T3.setTop (mkF m 159 #[.val (.long q1), .second, .val (.long q2), .second, .val (.long q3), .second, .val (.long q4), .second, .val (.long q5), .second, .val (.long q6), .second, .val (.long k1), .second, .val (.long k2), .second, .val (.long k3), .second, .val (.long w1), .second, .val (.long w2), .second, .val (.long w3), .second, .val (.int nn), .val (.long qz), .second, .val (.ref t), .val (.int (1 : Int32)), .unset, .unset, .unset] [(.long w1), (.long k1), (.int nn), (.long k2), (.long r3)])) _
  refine XS.lload X3.here hx rfl (hb hby at_159) rfl ?_
  show Steps p.tables e below (T3.setTop (mkF m 161 #[.val (.long q1), .second, .val (.long q2), .second, .val (.long q3), .second, .val (.long q4), .second, .val (.long q5), .second, .val (.long q6), .second, .val (.long k1), .second, .val (.long k2), .second, .val (.long k3), .second, .val (.long w1), .second, .val (.long w2), .second, .val (.long w3), .second, .val (.int nn), .val (.long qz), .second, .val (.ref t), .val (.int (1 : Int32)), .unset, .unset, .unset] [(.long k2), (.long w1), (.long k1), (.int nn), (.long k2), (.long r3)])) _
  refine XS.lload X3.here hx rfl (hb hby at_161) rfl ?_
  show Steps p.tables e below (T3.setTop (mkF m 163 #[.val (.long q1), .second, .val (.long q2), .second, .val (.long q3), .second, .val (.long q4), .second, .val (.long q5), .second, .val (.long q6), .second, .val (.long k1), .second, .val (.long k2), .second, .val (.long k3), .second, .val (.long w1), .second, .val (.long w2), .second, .val (.long w3), .second, .val (.int nn), .val (.long qz), .second, .val (.ref t), .val (.int (1 : Int32)), .unset, .unset, .unset] [(.long w2), (.long k2), (.long w1), (.long k1), (.int nn), (.long k2), (.long r3)])) _
  refine XS.lload X3.here hx rfl (hb hby at_163) rfl ?_
  show Steps p.tables e below (T3.setTop (mkF m 165 #[.val (.long q1), .second, .val (.long q2), .second, .val (.long q3), .second, .val (.long q4), .second, .val (.long q5), .second, .val (.long q6), .second, .val (.long k1), .second, .val (.long k2), .second, .val (.long k3), .second, .val (.long w1), .second, .val (.long w2), .second, .val (.long w3), .second, .val (.int nn), .val (.long qz), .second, .val (.ref t), .val (.int (1 : Int32)), .unset, .unset, .unset] [(.long k3), (.long w2), (.long k2), (.long w1), (.long k1), (.int nn), (.long k2), (.long r3)])) _
  refine XS.lload X3.here hx rfl (hb hby at_165) rfl ?_
  show Steps p.tables e below (T3.setTop (mkF m 167 #[.val (.long q1), .second, .val (.long q2), .second, .val (.long q3), .second, .val (.long q4), .second, .val (.long q5), .second, .val (.long q6), .second, .val (.long k1), .second, .val (.long k2), .second, .val (.long k3), .second, .val (.long w1), .second, .val (.long w2), .second, .val (.long w3), .second, .val (.int nn), .val (.long qz), .second, .val (.ref t), .val (.int (1 : Int32)), .unset, .unset, .unset] [(.long w3), (.long k3), (.long w2), (.long k2), (.long w1), (.long k1), (.int nn), (.long k2), (.long r3)])) _
  refine st4 _ ?_
  show Steps p.tables e below (T4.setTop (mkF m 170 #[.val (.long q1), .second, .val (.long q2), .second, .val (.long q3), .second, .val (.long q4), .second, .val (.long q5), .second, .val (.long q6), .second, .val (.long k1), .second, .val (.long k2), .second, .val (.long k3), .second, .val (.long w1), .second, .val (.long w2), .second, .val (.long w3), .second, .val (.int nn), .val (.long qz), .second, .val (.ref t), .val (.int (1 : Int32)), .unset, .unset, .unset] [(.long r4), (.long r3)])) _
  refine XS.lcmp X4.here hx rfl (hb hby at_170) rfl ?_
  show Steps p.tables e below (T4.setTop (mkF m 171 #[.val (.long q1), .second, .val (.long q2), .second, .val (.long q3), .second, .val (.long q4), .second, .val (.long q5), .second, .val (.long q6), .second, .val (.long k1), .second, .val (.long k2), .second, .val (.long k3), .second, .val (.long w1), .second, .val (.long w2), .second, .val (.long w3), .second, .val (.int nn), .val (.long qz), .second, .val (.ref t), .val (.int (1 : Int32)), .unset, .unset, .unset] [(.int (lcmpW r3 r4))])) _
  refine XS.ifNo X4.here hx rfl (hb hby at_171) rfl ((if0 _ _).trans (teq (own_lceq (by rw [hg3, hr4]; exact (HX _).symm))).2) ?_
  show Steps p.tables e below (T4.setTop (mkF m 174 #[.val (.long q1), .second, .val (.long q2), .second, .val (.long q3), .second, .val (.long q4), .second, .val (.long q5), .second, .val (.long q6), .second, .val (.long k1), .second, .val (.long k2), .second, .val (.long k3), .second, .val (.long w1), .second, .val (.long w2), .second, .val (.long w3), .second, .val (.int nn), .val (.long qz), .second, .val (.ref t), .val (.int (1 : Int32)), .unset, .unset, .unset] [])) _
  refine XS.iconst X4.here hx rfl (hb hby at_174) ?_
  show Steps p.tables e below (T4.setTop (mkF m 175 #[.val (.long q1), .second, .val (.long q2), .second, .val (.long q3), .second, .val (.long q4), .second, .val (.long q5), .second, .val (.long q6), .second, .val (.long k1), .second, .val (.long k2), .second, .val (.long k3), .second, .val (.long w1), .second, .val (.long w2), .second, .val (.long w3), .second, .val (.int nn), .val (.long qz), .second, .val (.ref t), .val (.int (1 : Int32)), .unset, .unset, .unset] [(.int (1 : Int32))])) _
  refine XS.goto X4.here hx rfl (pc0 := 175) (pc' := 179) rfl (hb hby at_175) (by decide) (by decide) ?_
  show Steps p.tables e below (T4.setTop (mkF m 179 #[.val (.long q1), .second, .val (.long q2), .second, .val (.long q3), .second, .val (.long q4), .second, .val (.long q5), .second, .val (.long q6), .second, .val (.long k1), .second, .val (.long k2), .second, .val (.long k3), .second, .val (.long w1), .second, .val (.long w2), .second, .val (.long w3), .second, .val (.int nn), .val (.long qz), .second, .val (.ref t), .val (.int (1 : Int32)), .unset, .unset, .unset] [(.int (1 : Int32))])) _
  refine XS.istore X4.here hx rfl (hb hby at_179) rfl (l' := #[.val (.long q1), .second, .val (.long q2), .second, .val (.long q3), .second, .val (.long q4), .second, .val (.long q5), .second, .val (.long q6), .second, .val (.long k1), .second, .val (.long k2), .second, .val (.long k3), .second, .val (.long w1), .second, .val (.long w2), .second, .val (.long w3), .second, .val (.int nn), .val (.long qz), .second, .val (.ref t), .val (.int (1 : Int32)), .val (.int (1 : Int32)), .unset, .unset]) rfl ?_
  show Steps p.tables e below (T4.setTop (mkF m 181 #[.val (.long q1), .second, .val (.long q2), .second, .val (.long q3), .second, .val (.long q4), .second, .val (.long q5), .second, .val (.long q6), .second, .val (.long k1), .second, .val (.long k2), .second, .val (.long k3), .second, .val (.long w1), .second, .val (.long w2), .second, .val (.long w3), .second, .val (.int nn), .val (.long qz), .second, .val (.ref t), .val (.int (1 : Int32)), .val (.int (1 : Int32)), .unset, .unset] [])) _
  refine XS.aload X4.here hx rfl (hb hby at_181) rfl rfl ?_
  show Steps p.tables e below (T4.setTop (mkF m 183 #[.val (.long q1), .second, .val (.long q2), .second, .val (.long q3), .second, .val (.long q4), .second, .val (.long q5), .second, .val (.long q6), .second, .val (.long k1), .second, .val (.long k2), .second, .val (.long k3), .second, .val (.long w1), .second, .val (.long w2), .second, .val (.long w3), .second, .val (.int nn), .val (.long qz), .second, .val (.ref t), .val (.int (1 : Int32)), .val (.int (1 : Int32)), .unset, .unset] [(.ref t)])) _
  refine XS.lload X4.here hx rfl (hb hby at_183) rfl ?_
  show Steps p.tables e below (T4.setTop (mkF m 185 #[.val (.long q1), .second, .val (.long q2), .second, .val (.long q3), .second, .val (.long q4), .second, .val (.long q5), .second, .val (.long q6), .second, .val (.long k1), .second, .val (.long k2), .second, .val (.long k3), .second, .val (.long w1), .second, .val (.long w2), .second, .val (.long w3), .second, .val (.int nn), .val (.long qz), .second, .val (.ref t), .val (.int (1 : Int32)), .val (.int (1 : Int32)), .unset, .unset] [(.long k3), (.ref t)])) _
  refine st5.trans ?_
  show Steps p.tables e below (T5.setTop (mkF m 188 #[.val (.long q1), .second, .val (.long q2), .second, .val (.long q3), .second, .val (.long q4), .second, .val (.long q5), .second, .val (.long q6), .second, .val (.long k1), .second, .val (.long k2), .second, .val (.long k3), .second, .val (.long w1), .second, .val (.long w2), .second, .val (.long w3), .second, .val (.int nn), .val (.long qz), .second, .val (.ref t), .val (.int (1 : Int32)), .val (.int (1 : Int32)), .unset, .unset] [(.long r5)])) _
  refine XS.lload X5.here hx rfl (hb hby at_188) rfl ?_
  show Steps p.tables e below (T5.setTop (mkF m 190 #[.val (.long q1), .second, .val (.long q2), .second, .val (.long q3), .second, .val (.long q4), .second, .val (.long q5), .second, .val (.long q6), .second, .val (.long k1), .second, .val (.long k2), .second, .val (.long k3), .second, .val (.long w1), .second, .val (.long w2), .second, .val (.long w3), .second, .val (.int nn), .val (.long qz), .second, .val (.ref t), .val (.int (1 : Int32)), .val (.int (1 : Int32)), .unset, .unset] [(.long k3), (.long r5)])) _
  refine XS.iload X5.here hx rfl (hb hby at_190) rfl ?_
  show Steps p.tables e below (T5.setTop (mkF m 192 #[.val (.long q1), .second, .val (.long q2), .second, .val (.long q3), .second, .val (.long q4), .second, .val (.long q5), .second, .val (.long q6), .second, .val (.long k1), .second, .val (.long k2), .second, .val (.long k3), .second, .val (.long w1), .second, .val (.long w2), .second, .val (.long w3), .second, .val (.int nn), .val (.long qz), .second, .val (.ref t), .val (.int (1 : Int32)), .val (.int (1 : Int32)), .unset, .unset] [(.int nn), (.long k3), (.long r5)])) _
  refine XS.lload X5.here hx rfl (hb hby at_192) rfl ?_
  show Steps p.tables e below (T5.setTop (mkF m 194 #[.val (.long q1), .second, .val (.long q2), .second, .val (.long q3), .second, .val (.long q4), .second, .val (.long q5), .second, .val (.long q6), .second, .val (.long k1), .second, .val (.long k2), .second, .val (.long k3), .second, .val (.long w1), .second, .val (.long w2), .second, .val (.long w3), .second, .val (.int nn), .val (.long qz), .second, .val (.ref t), .val (.int (1 : Int32)), .val (.int (1 : Int32)), .unset, .unset] [(.long k1), (.int nn), (.long k3), (.long r5)])) _
  refine XS.lload X5.here hx rfl (hb hby at_194) rfl ?_
  show Steps p.tables e below (T5.setTop (mkF m 196 #[.val (.long q1), .second, .val (.long q2), .second, .val (.long q3), .second, .val (.long q4), .second, .val (.long q5), .second, .val (.long q6), .second, .val (.long k1), .second, .val (.long k2), .second, .val (.long k3), .second, .val (.long w1), .second, .val (.long w2), .second, .val (.long w3), .second, .val (.int nn), .val (.long qz), .second, .val (.ref t), .val (.int (1 : Int32)), .val (.int (1 : Int32)), .unset, .unset] [(.long w1), (.long k1), (.int nn), (.long k3), (.long r5)])) _
  refine XS.lload X5.here hx rfl (hb hby at_196) rfl ?_
  show Steps p.tables e below (T5.setTop (mkF m 198 #[.val (.long q1), .second, .val (.long q2), .second, .val (.long q3), .second, .val (.long q4), .second, .val (.long q5), .second, .val (.long q6), .second, .val (.long k1), .second, .val (.long k2), .second, .val (.long k3), .second, .val (.long w1), .second, .val (.long w2), .second, .val (.long w3), .second, .val (.int nn), .val (.long qz), .second, .val (.ref t), .val (.int (1 : Int32)), .val (.int (1 : Int32)), .unset, .unset] [(.long k2), (.long w1), (.long k1), (.int nn), (.long k3), (.long r5)])) _
  refine XS.lload X5.here hx rfl (hb hby at_198) rfl ?_
  show Steps p.tables e below (T5.setTop (mkF m 200 #[.val (.long q1), .second, .val (.long q2), .second, .val (.long q3), .second, .val (.long q4), .second, .val (.long q5), .second, .val (.long q6), .second, .val (.long k1), .second, .val (.long k2), .second, .val (.long k3), .second, .val (.long w1), .second, .val (.long w2), .second, .val (.long w3), .second, .val (.int nn), .val (.long qz), .second, .val (.ref t), .val (.int (1 : Int32)), .val (.int (1 : Int32)), .unset, .unset] [(.long w2), (.long k2), (.long w1), (.long k1), (.int nn), (.long k3), (.long r5)])) _
  refine XS.lload X5.here hx rfl (hb hby at_200) rfl ?_
  show Steps p.tables e below (T5.setTop (mkF m 202 #[.val (.long q1), .second, .val (.long q2), .second, .val (.long q3), .second, .val (.long q4), .second, .val (.long q5), .second, .val (.long q6), .second, .val (.long k1), .second, .val (.long k2), .second, .val (.long k3), .second, .val (.long w1), .second, .val (.long w2), .second, .val (.long w3), .second, .val (.int nn), .val (.long qz), .second, .val (.ref t), .val (.int (1 : Int32)), .val (.int (1 : Int32)), .unset, .unset] [(.long k3), (.long w2), (.long k2), (.long w1), (.long k1), (.int nn), (.long k3), (.long r5)])) _
  refine XS.lload X5.here hx rfl (hb hby at_202) rfl ?_
  show Steps p.tables e below (T5.setTop (mkF m 204 #[.val (.long q1), .second, .val (.long q2), .second, .val (.long q3), .second, .val (.long q4), .second, .val (.long q5), .second, .val (.long q6), .second, .val (.long k1), .second, .val (.long k2), .second, .val (.long k3), .second, .val (.long w1), .second, .val (.long w2), .second, .val (.long w3), .second, .val (.int nn), .val (.long qz), .second, .val (.ref t), .val (.int (1 : Int32)), .val (.int (1 : Int32)), .unset, .unset] [(.long w3), (.long k3), (.long w2), (.long k2), (.long w1), (.long k1), (.int nn), (.long k3), (.long r5)])) _
  refine st6 _ ?_
  show Steps p.tables e below (T6.setTop (mkF m 207 #[.val (.long q1), .second, .val (.long q2), .second, .val (.long q3), .second, .val (.long q4), .second, .val (.long q5), .second, .val (.long q6), .second, .val (.long k1), .second, .val (.long k2), .second, .val (.long k3), .second, .val (.long w1), .second, .val (.long w2), .second, .val (.long w3), .second, .val (.int nn), .val (.long qz), .second, .val (.ref t), .val (.int (1 : Int32)), .val (.int (1 : Int32)), .unset, .unset] [(.long r6), (.long r5)])) _
  refine XS.lcmp X6.here hx rfl (hb hby at_207) rfl ?_
  show Steps p.tables e below (T6.setTop (mkF m 208 #[.val (.long q1), .second, .val (.long q2), .second, .val (.long q3), .second, .val (.long q4), .second, .val (.long q5), .second, .val (.long q6), .second, .val (.long k1), .second, .val (.long k2), .second, .val (.long k3), .second, .val (.long w1), .second, .val (.long w2), .second, .val (.long w3), .second, .val (.int nn), .val (.long qz), .second, .val (.ref t), .val (.int (1 : Int32)), .val (.int (1 : Int32)), .unset, .unset] [(.int (lcmpW r5 r6))])) _
  refine XS.ifNo X6.here hx rfl (hb hby at_208) rfl ((if0 _ _).trans (teq (own_lceq (by rw [hg5, hr6]; exact (HX _).symm))).2) ?_
  show Steps p.tables e below (T6.setTop (mkF m 211 #[.val (.long q1), .second, .val (.long q2), .second, .val (.long q3), .second, .val (.long q4), .second, .val (.long q5), .second, .val (.long q6), .second, .val (.long k1), .second, .val (.long k2), .second, .val (.long k3), .second, .val (.long w1), .second, .val (.long w2), .second, .val (.long w3), .second, .val (.int nn), .val (.long qz), .second, .val (.ref t), .val (.int (1 : Int32)), .val (.int (1 : Int32)), .unset, .unset] [])) _
  refine XS.iconst X6.here hx rfl (hb hby at_211) ?_
  show Steps p.tables e below (T6.setTop (mkF m 212 #[.val (.long q1), .second, .val (.long q2), .second, .val (.long q3), .second, .val (.long q4), .second, .val (.long q5), .second, .val (.long q6), .second, .val (.long k1), .second, .val (.long k2), .second, .val (.long k3), .second, .val (.long w1), .second, .val (.long w2), .second, .val (.long w3), .second, .val (.int nn), .val (.long qz), .second, .val (.ref t), .val (.int (1 : Int32)), .val (.int (1 : Int32)), .unset, .unset] [(.int (1 : Int32))])) _
  refine XS.goto X6.here hx rfl (pc0 := 212) (pc' := 216) rfl (hb hby at_212) (by decide) (by decide) ?_
  show Steps p.tables e below (T6.setTop (mkF m 216 #[.val (.long q1), .second, .val (.long q2), .second, .val (.long q3), .second, .val (.long q4), .second, .val (.long q5), .second, .val (.long q6), .second, .val (.long k1), .second, .val (.long k2), .second, .val (.long k3), .second, .val (.long w1), .second, .val (.long w2), .second, .val (.long w3), .second, .val (.int nn), .val (.long qz), .second, .val (.ref t), .val (.int (1 : Int32)), .val (.int (1 : Int32)), .unset, .unset] [(.int (1 : Int32))])) _
  refine XS.istore X6.here hx rfl (hb hby at_216) rfl (l' := #[.val (.long q1), .second, .val (.long q2), .second, .val (.long q3), .second, .val (.long q4), .second, .val (.long q5), .second, .val (.long q6), .second, .val (.long k1), .second, .val (.long k2), .second, .val (.long k3), .second, .val (.long w1), .second, .val (.long w2), .second, .val (.long w3), .second, .val (.int nn), .val (.long qz), .second, .val (.ref t), .val (.int (1 : Int32)), .val (.int (1 : Int32)), .val (.int (1 : Int32)), .unset]) rfl ?_
  show Steps p.tables e below (T6.setTop (mkF m 218 #[.val (.long q1), .second, .val (.long q2), .second, .val (.long q3), .second, .val (.long q4), .second, .val (.long q5), .second, .val (.long q6), .second, .val (.long k1), .second, .val (.long k2), .second, .val (.long k3), .second, .val (.long w1), .second, .val (.long w2), .second, .val (.long w3), .second, .val (.int nn), .val (.long qz), .second, .val (.ref t), .val (.int (1 : Int32)), .val (.int (1 : Int32)), .val (.int (1 : Int32)), .unset] [])) _
  refine XS.aload X6.here hx rfl (hb hby at_218) rfl rfl ?_
  show Steps p.tables e below (T6.setTop (mkF m 220 #[.val (.long q1), .second, .val (.long q2), .second, .val (.long q3), .second, .val (.long q4), .second, .val (.long q5), .second, .val (.long q6), .second, .val (.long k1), .second, .val (.long k2), .second, .val (.long k3), .second, .val (.long w1), .second, .val (.long w2), .second, .val (.long w3), .second, .val (.int nn), .val (.long qz), .second, .val (.ref t), .val (.int (1 : Int32)), .val (.int (1 : Int32)), .val (.int (1 : Int32)), .unset] [(.ref t)])) _
  refine XS.lload X6.here hx rfl (hb hby at_220) rfl ?_
  show Steps p.tables e below (T6.setTop (mkF m 222 #[.val (.long q1), .second, .val (.long q2), .second, .val (.long q3), .second, .val (.long q4), .second, .val (.long q5), .second, .val (.long q6), .second, .val (.long k1), .second, .val (.long k2), .second, .val (.long k3), .second, .val (.long w1), .second, .val (.long w2), .second, .val (.long w3), .second, .val (.int nn), .val (.long qz), .second, .val (.ref t), .val (.int (1 : Int32)), .val (.int (1 : Int32)), .val (.int (1 : Int32)), .unset] [(.long qz), (.ref t)])) _
  refine st7.trans ?_
  show Steps p.tables e below (T7.setTop (mkF m 225 #[.val (.long q1), .second, .val (.long q2), .second, .val (.long q3), .second, .val (.long q4), .second, .val (.long q5), .second, .val (.long q6), .second, .val (.long k1), .second, .val (.long k2), .second, .val (.long k3), .second, .val (.long w1), .second, .val (.long w2), .second, .val (.long w3), .second, .val (.int nn), .val (.long qz), .second, .val (.ref t), .val (.int (1 : Int32)), .val (.int (1 : Int32)), .val (.int (1 : Int32)), .unset] [(.long r7)])) _
  refine XS.lload X7.here hx rfl (hb hby at_225) rfl ?_
  show Steps p.tables e below (T7.setTop (mkF m 227 #[.val (.long q1), .second, .val (.long q2), .second, .val (.long q3), .second, .val (.long q4), .second, .val (.long q5), .second, .val (.long q6), .second, .val (.long k1), .second, .val (.long k2), .second, .val (.long k3), .second, .val (.long w1), .second, .val (.long w2), .second, .val (.long w3), .second, .val (.int nn), .val (.long qz), .second, .val (.ref t), .val (.int (1 : Int32)), .val (.int (1 : Int32)), .val (.int (1 : Int32)), .unset] [(.long qz), (.long r7)])) _
  refine XS.iload X7.here hx rfl (hb hby at_227) rfl ?_
  show Steps p.tables e below (T7.setTop (mkF m 229 #[.val (.long q1), .second, .val (.long q2), .second, .val (.long q3), .second, .val (.long q4), .second, .val (.long q5), .second, .val (.long q6), .second, .val (.long k1), .second, .val (.long k2), .second, .val (.long k3), .second, .val (.long w1), .second, .val (.long w2), .second, .val (.long w3), .second, .val (.int nn), .val (.long qz), .second, .val (.ref t), .val (.int (1 : Int32)), .val (.int (1 : Int32)), .val (.int (1 : Int32)), .unset] [(.int nn), (.long qz), (.long r7)])) _
  refine XS.lload X7.here hx rfl (hb hby at_229) rfl ?_
  show Steps p.tables e below (T7.setTop (mkF m 231 #[.val (.long q1), .second, .val (.long q2), .second, .val (.long q3), .second, .val (.long q4), .second, .val (.long q5), .second, .val (.long q6), .second, .val (.long k1), .second, .val (.long k2), .second, .val (.long k3), .second, .val (.long w1), .second, .val (.long w2), .second, .val (.long w3), .second, .val (.int nn), .val (.long qz), .second, .val (.ref t), .val (.int (1 : Int32)), .val (.int (1 : Int32)), .val (.int (1 : Int32)), .unset] [(.long k1), (.int nn), (.long qz), (.long r7)])) _
  refine XS.lload X7.here hx rfl (hb hby at_231) rfl ?_
  show Steps p.tables e below (T7.setTop (mkF m 233 #[.val (.long q1), .second, .val (.long q2), .second, .val (.long q3), .second, .val (.long q4), .second, .val (.long q5), .second, .val (.long q6), .second, .val (.long k1), .second, .val (.long k2), .second, .val (.long k3), .second, .val (.long w1), .second, .val (.long w2), .second, .val (.long w3), .second, .val (.int nn), .val (.long qz), .second, .val (.ref t), .val (.int (1 : Int32)), .val (.int (1 : Int32)), .val (.int (1 : Int32)), .unset] [(.long w1), (.long k1), (.int nn), (.long qz), (.long r7)])) _
  refine XS.lload X7.here hx rfl (hb hby at_233) rfl ?_
  show Steps p.tables e below (T7.setTop (mkF m 235 #[.val (.long q1), .second, .val (.long q2), .second, .val (.long q3), .second, .val (.long q4), .second, .val (.long q5), .second, .val (.long q6), .second, .val (.long k1), .second, .val (.long k2), .second, .val (.long k3), .second, .val (.long w1), .second, .val (.long w2), .second, .val (.long w3), .second, .val (.int nn), .val (.long qz), .second, .val (.ref t), .val (.int (1 : Int32)), .val (.int (1 : Int32)), .val (.int (1 : Int32)), .unset] [(.long k2), (.long w1), (.long k1), (.int nn), (.long qz), (.long r7)])) _
  refine XS.lload X7.here hx rfl (hb hby at_235) rfl ?_
  show Steps p.tables e below (T7.setTop (mkF m 237 #[.val (.long q1), .second, .val (.long q2), .second, .val (.long q3), .second, .val (.long q4), .second, .val (.long q5), .second, .val (.long q6), .second, .val (.long k1), .second, .val (.long k2), .second, .val (.long k3), .second, .val (.long w1), .second, .val (.long w2), .second, .val (.long w3), .second, .val (.int nn), .val (.long qz), .second, .val (.ref t), .val (.int (1 : Int32)), .val (.int (1 : Int32)), .val (.int (1 : Int32)), .unset] [(.long w2), (.long k2), (.long w1), (.long k1), (.int nn), (.long qz), (.long r7)])) _
  refine XS.lload X7.here hx rfl (hb hby at_237) rfl ?_
  show Steps p.tables e below (T7.setTop (mkF m 239 #[.val (.long q1), .second, .val (.long q2), .second, .val (.long q3), .second, .val (.long q4), .second, .val (.long q5), .second, .val (.long q6), .second, .val (.long k1), .second, .val (.long k2), .second, .val (.long k3), .second, .val (.long w1), .second, .val (.long w2), .second, .val (.long w3), .second, .val (.int nn), .val (.long qz), .second, .val (.ref t), .val (.int (1 : Int32)), .val (.int (1 : Int32)), .val (.int (1 : Int32)), .unset] [(.long k3), (.long w2), (.long k2), (.long w1), (.long k1), (.int nn), (.long qz), (.long r7)])) _
  refine XS.lload X7.here hx rfl (hb hby at_239) rfl ?_
  show Steps p.tables e below (T7.setTop (mkF m 241 #[.val (.long q1), .second, .val (.long q2), .second, .val (.long q3), .second, .val (.long q4), .second, .val (.long q5), .second, .val (.long q6), .second, .val (.long k1), .second, .val (.long k2), .second, .val (.long k3), .second, .val (.long w1), .second, .val (.long w2), .second, .val (.long w3), .second, .val (.int nn), .val (.long qz), .second, .val (.ref t), .val (.int (1 : Int32)), .val (.int (1 : Int32)), .val (.int (1 : Int32)), .unset] [(.long w3), (.long k3), (.long w2), (.long k2), (.long w1), (.long k1), (.int nn), (.long qz), (.long r7)])) _
  refine st8 _ ?_
  show Steps p.tables e below (T8.setTop (mkF m 244 #[.val (.long q1), .second, .val (.long q2), .second, .val (.long q3), .second, .val (.long q4), .second, .val (.long q5), .second, .val (.long q6), .second, .val (.long k1), .second, .val (.long k2), .second, .val (.long k3), .second, .val (.long w1), .second, .val (.long w2), .second, .val (.long w3), .second, .val (.int nn), .val (.long qz), .second, .val (.ref t), .val (.int (1 : Int32)), .val (.int (1 : Int32)), .val (.int (1 : Int32)), .unset] [(.long r8), (.long r7)])) _
  refine XS.lcmp X8.here hx rfl (hb hby at_244) rfl ?_
  show Steps p.tables e below (T8.setTop (mkF m 245 #[.val (.long q1), .second, .val (.long q2), .second, .val (.long q3), .second, .val (.long q4), .second, .val (.long q5), .second, .val (.long q6), .second, .val (.long k1), .second, .val (.long k2), .second, .val (.long k3), .second, .val (.long w1), .second, .val (.long w2), .second, .val (.long w3), .second, .val (.int nn), .val (.long qz), .second, .val (.ref t), .val (.int (1 : Int32)), .val (.int (1 : Int32)), .val (.int (1 : Int32)), .unset] [(.int (lcmpW r7 r8))])) _
  refine XS.ifNo X8.here hx rfl (hb hby at_245) rfl ((if0 _ _).trans (teq (own_lceq (by rw [hg7, hr8]; exact (HX _).symm))).2) ?_
  show Steps p.tables e below (T8.setTop (mkF m 248 #[.val (.long q1), .second, .val (.long q2), .second, .val (.long q3), .second, .val (.long q4), .second, .val (.long q5), .second, .val (.long q6), .second, .val (.long k1), .second, .val (.long k2), .second, .val (.long k3), .second, .val (.long w1), .second, .val (.long w2), .second, .val (.long w3), .second, .val (.int nn), .val (.long qz), .second, .val (.ref t), .val (.int (1 : Int32)), .val (.int (1 : Int32)), .val (.int (1 : Int32)), .unset] [])) _
  refine XS.iconst X8.here hx rfl (hb hby at_248) ?_
  show Steps p.tables e below (T8.setTop (mkF m 249 #[.val (.long q1), .second, .val (.long q2), .second, .val (.long q3), .second, .val (.long q4), .second, .val (.long q5), .second, .val (.long q6), .second, .val (.long k1), .second, .val (.long k2), .second, .val (.long k3), .second, .val (.long w1), .second, .val (.long w2), .second, .val (.long w3), .second, .val (.int nn), .val (.long qz), .second, .val (.ref t), .val (.int (1 : Int32)), .val (.int (1 : Int32)), .val (.int (1 : Int32)), .unset] [(.int (1 : Int32))])) _
  refine XS.goto X8.here hx rfl (pc0 := 249) (pc' := 253) rfl (hb hby at_249) (by decide) (by decide) ?_
  show Steps p.tables e below (T8.setTop (mkF m 253 #[.val (.long q1), .second, .val (.long q2), .second, .val (.long q3), .second, .val (.long q4), .second, .val (.long q5), .second, .val (.long q6), .second, .val (.long k1), .second, .val (.long k2), .second, .val (.long k3), .second, .val (.long w1), .second, .val (.long w2), .second, .val (.long w3), .second, .val (.int nn), .val (.long qz), .second, .val (.ref t), .val (.int (1 : Int32)), .val (.int (1 : Int32)), .val (.int (1 : Int32)), .unset] [(.int (1 : Int32))])) _
  refine XS.istore X8.here hx rfl (hb hby at_253) rfl (l' := #[.val (.long q1), .second, .val (.long q2), .second, .val (.long q3), .second, .val (.long q4), .second, .val (.long q5), .second, .val (.long q6), .second, .val (.long k1), .second, .val (.long k2), .second, .val (.long k3), .second, .val (.long w1), .second, .val (.long w2), .second, .val (.long w3), .second, .val (.int nn), .val (.long qz), .second, .val (.ref t), .val (.int (1 : Int32)), .val (.int (1 : Int32)), .val (.int (1 : Int32)), .val (.int (1 : Int32))]) rfl ?_
  show Steps p.tables e below (T8.setTop (mkF m 255 #[.val (.long q1), .second, .val (.long q2), .second, .val (.long q3), .second, .val (.long q4), .second, .val (.long q5), .second, .val (.long q6), .second, .val (.long k1), .second, .val (.long k2), .second, .val (.long k3), .second, .val (.long w1), .second, .val (.long w2), .second, .val (.long w3), .second, .val (.int nn), .val (.long qz), .second, .val (.ref t), .val (.int (1 : Int32)), .val (.int (1 : Int32)), .val (.int (1 : Int32)), .val (.int (1 : Int32))] [])) _
  refine XS.iload X8.here hx rfl (hb hby at_255) rfl ?_
  show Steps p.tables e below (T8.setTop (mkF m 257 #[.val (.long q1), .second, .val (.long q2), .second, .val (.long q3), .second, .val (.long q4), .second, .val (.long q5), .second, .val (.long q6), .second, .val (.long k1), .second, .val (.long k2), .second, .val (.long k3), .second, .val (.long w1), .second, .val (.long w2), .second, .val (.long w3), .second, .val (.int nn), .val (.long qz), .second, .val (.ref t), .val (.int (1 : Int32)), .val (.int (1 : Int32)), .val (.int (1 : Int32)), .val (.int (1 : Int32))] [(.int (1 : Int32))])) _
  refine XS.ifNo X8.here hx rfl (hb hby at_257) rfl ((if0 _ _).trans (feq (by decide)).1) ?_
  show Steps p.tables e below (T8.setTop (mkF m 260 #[.val (.long q1), .second, .val (.long q2), .second, .val (.long q3), .second, .val (.long q4), .second, .val (.long q5), .second, .val (.long q6), .second, .val (.long k1), .second, .val (.long k2), .second, .val (.long k3), .second, .val (.long w1), .second, .val (.long w2), .second, .val (.long w3), .second, .val (.int nn), .val (.long qz), .second, .val (.ref t), .val (.int (1 : Int32)), .val (.int (1 : Int32)), .val (.int (1 : Int32)), .val (.int (1 : Int32))] [])) _
  refine XS.iload X8.here hx rfl (hb hby at_260) rfl ?_
  show Steps p.tables e below (T8.setTop (mkF m 262 #[.val (.long q1), .second, .val (.long q2), .second, .val (.long q3), .second, .val (.long q4), .second, .val (.long q5), .second, .val (.long q6), .second, .val (.long k1), .second, .val (.long k2), .second, .val (.long k3), .second, .val (.long w1), .second, .val (.long w2), .second, .val (.long w3), .second, .val (.int nn), .val (.long qz), .second, .val (.ref t), .val (.int (1 : Int32)), .val (.int (1 : Int32)), .val (.int (1 : Int32)), .val (.int (1 : Int32))] [(.int (1 : Int32))])) _
  refine XS.ifNo X8.here hx rfl (hb hby at_262) rfl ((if0 _ _).trans (feq (by decide)).1) ?_
  show Steps p.tables e below (T8.setTop (mkF m 265 #[.val (.long q1), .second, .val (.long q2), .second, .val (.long q3), .second, .val (.long q4), .second, .val (.long q5), .second, .val (.long q6), .second, .val (.long k1), .second, .val (.long k2), .second, .val (.long k3), .second, .val (.long w1), .second, .val (.long w2), .second, .val (.long w3), .second, .val (.int nn), .val (.long qz), .second, .val (.ref t), .val (.int (1 : Int32)), .val (.int (1 : Int32)), .val (.int (1 : Int32)), .val (.int (1 : Int32))] [])) _
  refine XS.iload X8.here hx rfl (hb hby at_265) rfl ?_
  show Steps p.tables e below (T8.setTop (mkF m 267 #[.val (.long q1), .second, .val (.long q2), .second, .val (.long q3), .second, .val (.long q4), .second, .val (.long q5), .second, .val (.long q6), .second, .val (.long k1), .second, .val (.long k2), .second, .val (.long k3), .second, .val (.long w1), .second, .val (.long w2), .second, .val (.long w3), .second, .val (.int nn), .val (.long qz), .second, .val (.ref t), .val (.int (1 : Int32)), .val (.int (1 : Int32)), .val (.int (1 : Int32)), .val (.int (1 : Int32))] [(.int (1 : Int32))])) _
  refine XS.ifNo X8.here hx rfl (hb hby at_267) rfl ((if0 _ _).trans (feq (by decide)).1) ?_
  show Steps p.tables e below (T8.setTop (mkF m 270 #[.val (.long q1), .second, .val (.long q2), .second, .val (.long q3), .second, .val (.long q4), .second, .val (.long q5), .second, .val (.long q6), .second, .val (.long k1), .second, .val (.long k2), .second, .val (.long k3), .second, .val (.long w1), .second, .val (.long w2), .second, .val (.long w3), .second, .val (.int nn), .val (.long qz), .second, .val (.ref t), .val (.int (1 : Int32)), .val (.int (1 : Int32)), .val (.int (1 : Int32)), .val (.int (1 : Int32))] [])) _
  refine XS.iload X8.here hx rfl (hb hby at_270) rfl ?_
  show Steps p.tables e below (T8.setTop (mkF m 272 #[.val (.long q1), .second, .val (.long q2), .second, .val (.long q3), .second, .val (.long q4), .second, .val (.long q5), .second, .val (.long q6), .second, .val (.long k1), .second, .val (.long k2), .second, .val (.long k3), .second, .val (.long w1), .second, .val (.long w2), .second, .val (.long w3), .second, .val (.int nn), .val (.long qz), .second, .val (.ref t), .val (.int (1 : Int32)), .val (.int (1 : Int32)), .val (.int (1 : Int32)), .val (.int (1 : Int32))] [(.int (1 : Int32))])) _
  refine XS.ifNo X8.here hx rfl (hb hby at_272) rfl ((if0 _ _).trans (feq (by decide)).1) ?_
  show Steps p.tables e below (T8.setTop (mkF m 275 #[.val (.long q1), .second, .val (.long q2), .second, .val (.long q3), .second, .val (.long q4), .second, .val (.long q5), .second, .val (.long q6), .second, .val (.long k1), .second, .val (.long k2), .second, .val (.long k3), .second, .val (.long w1), .second, .val (.long w2), .second, .val (.long w3), .second, .val (.int nn), .val (.long qz), .second, .val (.ref t), .val (.int (1 : Int32)), .val (.int (1 : Int32)), .val (.int (1 : Int32)), .val (.int (1 : Int32))] [])) _
  refine XS.iconst X8.here hx rfl (hb hby at_275) ?_
  show Steps p.tables e below (T8.setTop (mkF m 276 #[.val (.long q1), .second, .val (.long q2), .second, .val (.long q3), .second, .val (.long q4), .second, .val (.long q5), .second, .val (.long q6), .second, .val (.long k1), .second, .val (.long k2), .second, .val (.long k3), .second, .val (.long w1), .second, .val (.long w2), .second, .val (.long w3), .second, .val (.int nn), .val (.long qz), .second, .val (.ref t), .val (.int (1 : Int32)), .val (.int (1 : Int32)), .val (.int (1 : Int32)), .val (.int (1 : Int32))] [(.int (1 : Int32))])) _
  refine XS.goto X8.here hx rfl (pc0 := 276) (pc' := 280) rfl (hb hby at_276) (by decide) (by decide) ?_
  exact kt
theorem pd_7 : parseMethodDescriptor "()V" = some ⟨[], none⟩ := by decide +kernel
theorem pn_0 : plainName "com/example/pricewright/pricewright/core/LongSumTableGetPinLaw" = true := by first | (simp [plainName, overriddenIn]; done) | decide +kernel
theorem ef_rm0 (m : MethodId) (q1 : Int64) (q2 : Int64) (q3 : Int64) (q4 : Int64) (q5 : Int64) (q6 : Int64) : entryFrame m #[(.long q1), (.long q2), (.long q3), (.long q4), (.long q5), (.long q6)] maxLocals = mkF m 0 #[.val (.long q1), .second, .val (.long q2), .second, .val (.long q3), .second, .val (.long q4), .second, .val (.long q5), .second, .val (.long q6), .second, .unset, .unset, .unset, .unset, .unset, .unset, .unset, .unset, .unset, .unset, .unset, .unset, .unset, .unset, .unset, .unset, .unset, .unset, .unset, .unset] [] := by first | (simp [entryFrame, mkF, argsToLocals, Value.category, maxLocals]; done) | rfl
def Qrm0 (Z : State) (q1 : Int64) (q2 : Int64) (q3 : Int64) (q4 : Int64) (q5 : Int64) (q6 : Int64) (h0 : Heap) (n0 : Nat) (v : Option Value) (h : Heap) (L : List Loc) : Prop := v = some (.int 1) ∧ Fr n0 L
set_option maxRecDepth 65536 in
set_option maxHeartbeats 40000000 in
theorem rm0 (l : Launch) (Z : State) (a0 : Array Value) (hw : ∀ d ∈ tables_1, d.before a0 Z = true) (ws : List Jvm.Cond) (q1 : Int64) (q2 : Int64) (q3 : Int64) (q4 : Int64) (q5 : Int64) (q6 : Int64) (h0 : Heap) (n0 : Nat) (Z0 : n0 ≤ h0.size) :
    MetFree l x (head1 (Jvm.Cond.code x code maxLocals ret :: ws) room_1) (fun a U => a = #[(.long q1), (.long q2), (.long q3), (.long q4), (.long q5), (.long q6)] ∧ Z.Warmed39 U.vm ∧ U.heap = h0) (fun _ _ _ _ _ => True) (fun _ U o U' => ∃ v L, o = .returned v ∧ Qrm0 Z q1 q2 q3 q4 q5 q6 h0 n0 v U'.heap L ∧ FrameEnd U o U' L room_1.cells room_1.slots) := by
  refine MetFree.of_bodySF (plainFor_of_name pn_0) hisR ?_
  intro p e s m args below meth c s₁ Bd hml0 hP hK
  obtain ⟨rfl, hZ, hh⟩ := hP
  have hx := Bd.exec
  have hby := Bd.bytes
  have hml : c.maxLocals = 32 := hml0
  have hown : s.vm.findClass "com/example/pricewright/pricewright/core/LongSumTableGetPinLaw" = some m.cls := findClass_of_methodNamed Bd.named
  have hnm := (name_of_methodNamed Bd.named Bd.method).1
  have X0 : Stand p l e room_1 s m #[(.long q1), (.long q2), (.long q3), (.long q4), (.long q5), (.long q6)] below meth c s₁ [] 0 0 := Stand.of_body Bd
  have e0 : s₁.heap = h0 := by rw [← hh, Bd.state]; rfl
  have N0 := Fr.nil n0
  have pre0 : ∀ t, Steps p.tables e below (s₁.setTop (mkF m 0 #[.val (.long q1), .second, .val (.long q2), .second, .val (.long q3), .second, .val (.long q4), .second, .val (.long q5), .second, .val (.long q6), .second, .unset, .unset, .unset, .unset, .unset, .unset, .unset, .unset, .unset, .unset, .unset, .unset, .unset, .unset, .unset, .unset, .unset, .unset, .unset, .unset] [])) t → Steps p.tables e below (s₁.setTop (entryFrame m #[(.long q1), (.long q2), (.long q3), (.long q4), (.long q5), (.long q6)] maxLocals)) t := fun t k => castTop (ef_rm0 m q1 q2 q3 q4 q5 q6) k
  obtain ⟨_, _, ⟨T1, L1, k1, n1⟩, -, X1, ⟨Lc1, hQ1, l1, y1, z1⟩, st1⟩ := Jvm.LawKit.callS X0 hx (y := (⟨"com/example/pricewright/pricewright/core/LongSumTableGetPinLaw", "key", "(J)J"⟩ : MethodName)) hown (mvT hZ (hw _ (List.mem_of_getElem? (i := 0) rfl))) (mvT hZ (hw _ (List.mem_of_getElem? (i := 1) rfl))) (mvT hZ (hw _ (List.mem_of_getElem? (i := 2) rfl))) (mvT hZ (hw _ (List.mem_of_getElem? (i := 3) rfl))) (by decide) (backOf (W := 0) (rmk l Z a0 hw [] q1  h0 n0 Z0 ) hZ (hw _ (List.mem_of_getElem? (i := 3) rfl)) (hw _ (List.mem_of_getElem? (i := 2) rfl)) (by decide) (by decide)) (g := (mkF m 1 #[.val (.long q1), .second, .val (.long q2), .second, .val (.long q3), .second, .val (.long q4), .second, .val (.long q5), .second, .val (.long q6), .second, .unset, .unset, .unset, .unset, .unset, .unset, .unset, .unset, .unset, .unset, .unset, .unset, .unset, .unset, .unset, .unset, .unset, .unset, .unset, .unset] [(.long q1)])) rfl (by rw [hml]; rfl) (argsL := [(.long q1)]) (rest := []) (lenOf pd_4 rfl) rfl (by show 2 * 0 + _ ≤ _; exact Nat.le_of_eq rfl) (hb hby at_1) (fun _ _ => ⟨rfl, e0, (by decide : 0 + 0 ≤ _), (by decide : 0 + 0 ≤ _)⟩)
  dsimp only [Pt.U, Pt.locs, Pt.cells, Pt.slots] at X1 l1 y1 z1 st1 hQ1
  subst l1 y1 z1
  obtain ⟨r1, hr1, rfl, N1q, e1⟩ := hQ1
  have N1 := Fr.app N0 N1q
  obtain ⟨k1, hek1⟩ : ∃ z : Int64, z = r1 := ⟨_, rfl⟩
  have hk1 := own_key hr1
  rw [← hek1] at hk1
  obtain ⟨_, _, ⟨T2, L2, k2, n2⟩, -, X2, ⟨Lc2, hQ2, l2, y2, z2⟩, st2⟩ := Jvm.LawKit.callS X1 hx (y := (⟨"com/example/pricewright/pricewright/core/LongSumTableGetPinLaw", "key", "(J)J"⟩ : MethodName)) hown (mvT hZ (hw _ (List.mem_of_getElem? (i := 0) rfl))) (mvT hZ (hw _ (List.mem_of_getElem? (i := 1) rfl))) (mvT hZ (hw _ (List.mem_of_getElem? (i := 2) rfl))) (mvT hZ (hw _ (List.mem_of_getElem? (i := 3) rfl))) (by decide) (backOf (W := 0) (rmk l Z a0 hw [] q2  h0 n0 Z0 ) hZ (hw _ (List.mem_of_getElem? (i := 3) rfl)) (hw _ (List.mem_of_getElem? (i := 2) rfl)) (by decide) (by decide)) (g := (mkF m 7 #[.val (.long q1), .second, .val (.long q2), .second, .val (.long q3), .second, .val (.long q4), .second, .val (.long q5), .second, .val (.long q6), .second, .val (.long k1), .second, .unset, .unset, .unset, .unset, .unset, .unset, .unset, .unset, .unset, .unset, .unset, .unset, .unset, .unset, .unset, .unset, .unset, .unset] [(.long q2)])) rfl (by rw [hml]; rfl) (argsL := [(.long q2)]) (rest := []) (lenOf pd_4 rfl) rfl (by show 2 * 0 + _ ≤ _; exact Nat.le_of_eq rfl) (hb hby at_7) (fun _ _ => ⟨rfl, e1, (by decide : 0 + 0 ≤ _), (by decide : 0 + 0 ≤ _)⟩)
  dsimp only [Pt.U, Pt.locs, Pt.cells, Pt.slots] at X2 l2 y2 z2 st2 hQ2
  subst l2 y2 z2
  obtain ⟨r2, hr2, rfl, N2q, e2⟩ := hQ2
  have N2 := Fr.app N1 N2q
  obtain ⟨k2, hek2⟩ : ∃ z : Int64, z = r2 := ⟨_, rfl⟩
  have hk2 := own_key hr2
  rw [← hek2] at hk2
  obtain ⟨_, _, ⟨T3, L3, k3, n3⟩, -, X3, ⟨Lc3, hQ3, l3, y3, z3⟩, st3⟩ := Jvm.LawKit.callS X2 hx (y := (⟨"com/example/pricewright/pricewright/core/LongSumTableGetPinLaw", "key", "(J)J"⟩ : MethodName)) hown (mvT hZ (hw _ (List.mem_of_getElem? (i := 0) rfl))) (mvT hZ (hw _ (List.mem_of_getElem? (i := 1) rfl))) (mvT hZ (hw _ (List.mem_of_getElem? (i := 2) rfl))) (mvT hZ (hw _ (List.mem_of_getElem? (i := 3) rfl))) (by decide) (backOf (W := 0) (rmk l Z a0 hw [] q3  h0 n0 Z0 ) hZ (hw _ (List.mem_of_getElem? (i := 3) rfl)) (hw _ (List.mem_of_getElem? (i := 2) rfl)) (by decide) (by decide)) (g := (mkF m 14 #[.val (.long q1), .second, .val (.long q2), .second, .val (.long q3), .second, .val (.long q4), .second, .val (.long q5), .second, .val (.long q6), .second, .val (.long k1), .second, .val (.long k2), .second, .unset, .unset, .unset, .unset, .unset, .unset, .unset, .unset, .unset, .unset, .unset, .unset, .unset, .unset, .unset, .unset] [(.long q3)])) rfl (by rw [hml]; rfl) (argsL := [(.long q3)]) (rest := []) (lenOf pd_4 rfl) rfl (by show 2 * 0 + _ ≤ _; exact Nat.le_of_eq rfl) (hb hby at_14) (fun _ _ => ⟨rfl, e2, (by decide : 0 + 0 ≤ _), (by decide : 0 + 0 ≤ _)⟩)
  dsimp only [Pt.U, Pt.locs, Pt.cells, Pt.slots] at X3 l3 y3 z3 st3 hQ3
  subst l3 y3 z3
  obtain ⟨r3, hr3, rfl, N3q, e3⟩ := hQ3
  have N3 := Fr.app N2 N3q
  obtain ⟨k3, hek3⟩ : ∃ z : Int64, z = r3 := ⟨_, rfl⟩
  have hk3 := own_key hr3
  rw [← hek3] at hk3
  obtain ⟨w1, hw1⟩ : ∃ z : Int64, z = (q4 >>> ((2 : Int32) &&& 0x3f).toInt64) := ⟨_, rfl⟩
  obtain ⟨w2, hw2⟩ : ∃ z : Int64, z = (q5 >>> ((2 : Int32) &&& 0x3f).toInt64) := ⟨_, rfl⟩
  obtain ⟨w3, hw3⟩ : ∃ z : Int64, z = (w1 ^^^ w2) := ⟨_, rfl⟩
  obtain ⟨nn, hnn⟩ : ∃ z : Int32, z = ((q6 &&& (3 : Int64)).toInt32) := ⟨_, rfl⟩
  obtain ⟨qz, hqz⟩ : ∃ z : Int64, z = (q6 >>> ((2 : Int32) &&& 0x3f).toInt64) := ⟨_, rfl⟩
  have hk4 : ¬ qz = (-9223372036854775808 : Int64) := by rw [hqz]; exact own_qkey q6
  have hw3e : w3 = (q4 ^^^ q5) >>> ((2 : Int32) &&& 0x3f).toInt64 := by rw [hw3, hw1, hw2]; exact own_xor q4 q5
  have hb1 : -2305843009213693952 ≤ w1.toInt ∧ w1.toInt < 2305843009213693952 := by rw [hw1]; exact own_shr q4
  have hb2 : -2305843009213693952 ≤ w2.toInt ∧ w2.toInt < 2305843009213693952 := by rw [hw2]; exact own_shr q5
  have hb3 : -2305843009213693952 ≤ w3.toInt ∧ w3.toInt < 2305843009213693952 := by rw [hw3e]; exact own_shr _
  obtain ⟨T4, h4, X4, e4, E4, A4, D4, -, st4⟩ := newO X3 hx hZ hown (hw _ (List.mem_of_getElem? (i := 6) rfl)) (hw _ (List.mem_of_getElem? (i := 7) rfl)) (hw _ (List.mem_of_getElem? (i := 8) rfl)) e3 (g := (mkF m 53 #[.val (.long q1), .second, .val (.long q2), .second, .val (.long q3), .second, .val (.long q4), .second, .val (.long q5), .second, .val (.long q6), .second, .val (.long k1), .second, .val (.long k2), .second, .val (.long k3), .second, .val (.long w1), .second, .val (.long w2), .second, .val (.long w3), .second, .val (.int nn), .val (.long qz), .second, .unset, .unset, .unset, .unset, .unset] [])) rfl (hb hby at_53) (by decide) (by decide)
  obtain ⟨b4o, g4⟩ : ∃ z, z = h0.size := ⟨_, rfl⟩
  have b4 : n0 ≤ b4o := Nat.le_trans Z0 (Nat.le_of_eq g4.symm)
  rw [← g4] at A4 D4 st4
  have Z4 : n0 ≤ h4.size := Nat.le_trans Z0 E4.1
  have F4_20 : Fld Z h4 b4o "com/example/pricewright/pricewright/core/LongSumTable" "slots" "[J" .null := D4 (Or.inl (hw _ (List.mem_of_getElem? (i := 20) rfl))) (ty := (.array .long)) (by decide)
  have F4_32 : Fld Z h4 b4o "com/example/pricewright/pricewright/core/LongSumTable" "shift" "I" (.int (0 : Int32)) := D4 (Or.inl (hw _ (List.mem_of_getElem? (i := 32) rfl))) (ty := .int) (by decide)
  have F4_47 : Fld Z h4 b4o "com/example/pricewright/pricewright/core/LongSumTable" "sorted" "[J" .null := D4 (Or.inl (hw _ (List.mem_of_getElem? (i := 47) rfl))) (ty := (.array .long)) (by decide)
  have F4_49 : Fld Z h4 b4o "com/example/pricewright/pricewright/core/LongSumTable" "size" "I" (.int (0 : Int32)) := D4 (Or.inl (hw _ (List.mem_of_getElem? (i := 49) rfl))) (ty := .int) (by decide)
  obtain ⟨_, _, ⟨T5, L5, k5, n5⟩, -, X5, ⟨Lc5, hQ5, l5, y5, z5⟩, st5⟩ := X4.specialBack hx (y := (⟨"com/example/pricewright/pricewright/core/LongSumTable", "<init>", "()V"⟩ : MethodName)) rfl hown (mvT hZ (hw _ (List.mem_of_getElem? (i := 9) rfl))) (mvT hZ (hw _ (List.mem_of_getElem? (i := 10) rfl))) (mvT hZ (hw _ (List.mem_of_getElem? (i := 11) rfl))) (by decide) (backOf (W := 1) (rmI0 l Z a0 hw [] b4o  h4 n0 Z4 A4 F4_20 F4_32 F4_49 F4_47 b4) hZ (hw _ (List.mem_of_getElem? (i := 11) rfl)) (hw _ (List.mem_of_getElem? (i := 8) rfl)) (by decide) (by decide)) (g := (mkF m 57 #[.val (.long q1), .second, .val (.long q2), .second, .val (.long q3), .second, .val (.long q4), .second, .val (.long q5), .second, .val (.long q6), .second, .val (.long k1), .second, .val (.long k2), .second, .val (.long k3), .second, .val (.long w1), .second, .val (.long w2), .second, .val (.long w3), .second, .val (.int nn), .val (.long qz), .second, .unset, .unset, .unset, .unset, .unset] [(.ref b4o), (.ref b4o)])) rfl (by rw [hml]; rfl) (Steps.refl _) (a := b4o) (argsL := []) (rest := [(.ref b4o)]) (lenOf pd_7 rfl) rfl (by show 2 * 0 + _ ≤ _; exact Nat.le_of_eq rfl) (hb hby at_57) (fun _ _ => ⟨rfl, e4, (by decide : 1 + 1 ≤ _), (by decide : 4 + 8 ≤ _)⟩)
  dsimp only [Pt.U, Pt.locs, Pt.cells, Pt.slots] at X5 l5 y5 z5 st5 hQ5
  subst l5 y5 z5
  obtain ⟨rfl, N5q, KC5, u5⟩ := hQ5
  have N5 := Fr.app N3 N5q
  have Z5 : n0 ≤ T5.heap.size := Nat.le_trans Z4 KC5.1
  obtain ⟨sa5, sk5, ga5, gk5, EI5, FS5, FH5, FZ5, FQ5, AV5⟩ := id u5
  have net5 : b4o ≠ sa5 := ne_arrV (EI5) (hw _ (List.mem_of_getElem? (i := 7) rfl)) AV5
  have rp5e := own_rep_empty (W := own_W own_new4) (hs := own_hs 4) own_new4K
  have fr5e : ∃ j, j < 4 ∧ own_K own_new4 j = own_FREE := ⟨0, by decide, own_new4K 0 (by decide)⟩
  by_cases hc65 : nn < (1 : Int32)
  · have HX : ∀ x, own_e1 (own_e1 (own_e1 (0 : Int64) nn (1 : Int32) k1 x w1) nn (2 : Int32) k2 x w2) nn (3 : Int32) k3 x w3 = (fun _ => 0) x := fun x => ((own_eN (own_lt23 (own_lt12 hc65))).trans ((own_eN (own_lt12 hc65)).trans ((own_eN hc65).trans rfl)))
    have Xm6 := X5.more (cells' := 8) (slots' := 72) (by decide) (by decide)
    obtain ⟨T6, L6, X6, N6, st6⟩ := own_tail (n := 4) (arr := own_new4) (sh := (62 : Int32)) hx hZ hw hby hml hown Xm6 rfl N5 Z5 (Or.inl ⟨rfl, rfl⟩) EI5 FS5 FH5 AV5 fr5e rp5e hk1 hk2 hk3 hk4 HX
    obtain ⟨fs, hr, hrun, hended, hW, hsame⟩ := X6.leave (v := some (.int (1 : Int32))) (fun h => by rw [Bd.returns] at h; cases h)
    refine ⟨_, _, pre0 _ ?_, hrun, hended, _, _, rfl, ?_, ⟨_, rfl⟩, hW, hsame.mono (by decide) (by decide)⟩
    · show Steps p.tables e below (s₁.setTop (mkF m 0 #[.val (.long q1), .second, .val (.long q2), .second, .val (.long q3), .second, .val (.long q4), .second, .val (.long q5), .second, .val (.long q6), .second, .unset, .unset, .unset, .unset, .unset, .unset, .unset, .unset, .unset, .unset, .unset, .unset, .unset, .unset, .unset, .unset, .unset, .unset, .unset, .unset] [])) _
      refine XS.lloadN X0.here hx rfl (hb hby at_0) rfl ?_
      show Steps p.tables e below (s₁.setTop (mkF m 1 #[.val (.long q1), .second, .val (.long q2), .second, .val (.long q3), .second, .val (.long q4), .second, .val (.long q5), .second, .val (.long q6), .second, .unset, .unset, .unset, .unset, .unset, .unset, .unset, .unset, .unset, .unset, .unset, .unset, .unset, .unset, .unset, .unset, .unset, .unset, .unset, .unset] [(.long q1)])) _
      refine st1 _ ?_
      show Steps p.tables e below (T1.setTop (mkF m 4 #[.val (.long q1), .second, .val (.long q2), .second, .val (.long q3), .second, .val (.long q4), .second, .val (.long q5), .second, .val (.long q6), .second, .unset, .unset, .unset, .unset, .unset, .unset, .unset, .unset, .unset, .unset, .unset, .unset, .unset, .unset, .unset, .unset, .unset, .unset, .unset, .unset] [(.long r1)])) _
      refine XS.lstore X1.here hx rfl (hb hby at_4) rfl (l' := #[.val (.long q1), .second, .val (.long q2), .second, .val (.long q3), .second, .val (.long q4), .second, .val (.long q5), .second, .val (.long q6), .second, .val (.long r1), .second, .unset, .unset, .unset, .unset, .unset, .unset, .unset, .unset, .unset, .unset, .unset, .unset, .unset, .unset, .unset, .unset, .unset, .unset]) rfl ?_
      show Steps p.tables e below (T1.setTop (mkF m 6 #[.val (.long q1), .second, .val (.long q2), .second, .val (.long q3), .second, .val (.long q4), .second, .val (.long q5), .second, .val (.long q6), .second, .val (.long r1), .second, .unset, .unset, .unset, .unset, .unset, .unset, .unset, .unset, .unset, .unset, .unset, .unset, .unset, .unset, .unset, .unset, .unset, .unset] [])) _
      rw [← hek1]
      show Steps p.tables e below (T1.setTop (mkF m 6 #[.val (.long q1), .second, .val (.long q2), .second, .val (.long q3), .second, .val (.long q4), .second, .val (.long q5), .second, .val (.long q6), .second, .val (.long k1), .second, .unset, .unset, .unset, .unset, .unset, .unset, .unset, .unset, .unset, .unset, .unset, .unset, .unset, .unset, .unset, .unset, .unset, .unset] [])) _
      refine XS.lloadN X1.here hx rfl (hb hby at_6) rfl ?_
      show Steps p.tables e below (T1.setTop (mkF m 7 #[.val (.long q1), .second, .val (.long q2), .second, .val (.long q3), .second, .val (.long q4), .second, .val (.long q5), .second, .val (.long q6), .second, .val (.long k1), .second, .unset, .unset, .unset, .unset, .unset, .unset, .unset, .unset, .unset, .unset, .unset, .unset, .unset, .unset, .unset, .unset, .unset, .unset] [(.long q2)])) _
      refine st2 _ ?_
      show Steps p.tables e below (T2.setTop (mkF m 10 #[.val (.long q1), .second, .val (.long q2), .second, .val (.long q3), .second, .val (.long q4), .second, .val (.long q5), .second, .val (.long q6), .second, .val (.long k1), .second, .unset, .unset, .unset, .unset, .unset, .unset, .unset, .unset, .unset, .unset, .unset, .unset, .unset, .unset, .unset, .unset, .unset, .unset] [(.long r2)])) _
      refine XS.lstore X2.here hx rfl (hb hby at_10) rfl (l' := #[.val (.long q1), .second, .val (.long q2), .second, .val (.long q3), .second, .val (.long q4), .second, .val (.long q5), .second, .val (.long q6), .second, .val (.long k1), .second, .val (.long r2), .second, .unset, .unset, .unset, .unset, .unset, .unset, .unset, .unset, .unset, .unset, .unset, .unset, .unset, .unset, .unset, .unset]) rfl ?_
      show Steps p.tables e below (T2.setTop (mkF m 12 #[.val (.long q1), .second, .val (.long q2), .second, .val (.long q3), .second, .val (.long q4), .second, .val (.long q5), .second, .val (.long q6), .second, .val (.long k1), .second, .val (.long r2), .second, .unset, .unset, .unset, .unset, .unset, .unset, .unset, .unset, .unset, .unset, .unset, .unset, .unset, .unset, .unset, .unset] [])) _
      rw [← hek2]
      show Steps p.tables e below (T2.setTop (mkF m 12 #[.val (.long q1), .second, .val (.long q2), .second, .val (.long q3), .second, .val (.long q4), .second, .val (.long q5), .second, .val (.long q6), .second, .val (.long k1), .second, .val (.long k2), .second, .unset, .unset, .unset, .unset, .unset, .unset, .unset, .unset, .unset, .unset, .unset, .unset, .unset, .unset, .unset, .unset] [])) _
      refine XS.lload X2.here hx rfl (hb hby at_12) rfl ?_
      show Steps p.tables e below (T2.setTop (mkF m 14 #[.val (.long q1), .second, .val (.long q2), .second, .val (.long q3), .second, .val (.long q4), .second, .val (.long q5), .second, .val (.long q6), .second, .val (.long k1), .second, .val (.long k2), .second, .unset, .unset, .unset, .unset, .unset, .unset, .unset, .unset, .unset, .unset, .unset, .unset, .unset, .unset, .unset, .unset] [(.long q3)])) _
      refine st3 _ ?_
      show Steps p.tables e below (T3.setTop (mkF m 17 #[.val (.long q1), .second, .val (.long q2), .second, .val (.long q3), .second, .val (.long q4), .second, .val (.long q5), .second, .val (.long q6), .second, .val (.long k1), .second, .val (.long k2), .second, .unset, .unset, .unset, .unset, .unset, .unset, .unset, .unset, .unset, .unset, .unset, .unset, .unset, .unset, .unset, .unset] [(.long r3)])) _
      refine XS.lstore X3.here hx rfl (hb hby at_17) rfl (l' := #[.val (.long q1), .second, .val (.long q2), .second, .val (.long q3), .second, .val (.long q4), .second, .val (.long q5), .second, .val (.long q6), .second, .val (.long k1), .second, .val (.long k2), .second, .val (.long r3), .second, .unset, .unset, .unset, .unset, .unset, .unset, .unset, .unset, .unset, .unset, .unset, .unset, .unset, .unset]) rfl ?_
      show Steps p.tables e below (T3.setTop (mkF m 19 #[.val (.long q1), .second, .val (.long q2), .second, .val (.long q3), .second, .val (.long q4), .second, .val (.long q5), .second, .val (.long q6), .second, .val (.long k1), .second, .val (.long k2), .second, .val (.long r3), .second, .unset, .unset, .unset, .unset, .unset, .unset, .unset, .unset, .unset, .unset, .unset, .unset, .unset, .unset] [])) _
      rw [← hek3]
      show Steps p.tables e below (T3.setTop (mkF m 19 #[.val (.long q1), .second, .val (.long q2), .second, .val (.long q3), .second, .val (.long q4), .second, .val (.long q5), .second, .val (.long q6), .second, .val (.long k1), .second, .val (.long k2), .second, .val (.long k3), .second, .unset, .unset, .unset, .unset, .unset, .unset, .unset, .unset, .unset, .unset, .unset, .unset, .unset, .unset] [])) _
      refine XS.lload X3.here hx rfl (hb hby at_19) rfl ?_
      show Steps p.tables e below (T3.setTop (mkF m 21 #[.val (.long q1), .second, .val (.long q2), .second, .val (.long q3), .second, .val (.long q4), .second, .val (.long q5), .second, .val (.long q6), .second, .val (.long k1), .second, .val (.long k2), .second, .val (.long k3), .second, .unset, .unset, .unset, .unset, .unset, .unset, .unset, .unset, .unset, .unset, .unset, .unset, .unset, .unset] [(.long q4)])) _
      refine XS.iconst X3.here hx rfl (hb hby at_21) ?_
      show Steps p.tables e below (T3.setTop (mkF m 22 #[.val (.long q1), .second, .val (.long q2), .second, .val (.long q3), .second, .val (.long q4), .second, .val (.long q5), .second, .val (.long q6), .second, .val (.long k1), .second, .val (.long k2), .second, .val (.long k3), .second, .unset, .unset, .unset, .unset, .unset, .unset, .unset, .unset, .unset, .unset, .unset, .unset, .unset, .unset] [(.int (2 : Int32)), (.long q4)])) _
      refine XS.lshr X3.here hx rfl (hb hby at_22) rfl ?_
      show Steps p.tables e below (T3.setTop (mkF m 23 #[.val (.long q1), .second, .val (.long q2), .second, .val (.long q3), .second, .val (.long q4), .second, .val (.long q5), .second, .val (.long q6), .second, .val (.long k1), .second, .val (.long k2), .second, .val (.long k3), .second, .unset, .unset, .unset, .unset, .unset, .unset, .unset, .unset, .unset, .unset, .unset, .unset, .unset, .unset] [(.long (q4 >>> ((2 : Int32) &&& 0x3f).toInt64))])) _
      refine XS.lstore X3.here hx rfl (hb hby at_23) rfl (l' := #[.val (.long q1), .second, .val (.long q2), .second, .val (.long q3), .second, .val (.long q4), .second, .val (.long q5), .second, .val (.long q6), .second, .val (.long k1), .second, .val (.long k2), .second, .val (.long k3), .second, .val (.long (q4 >>> ((2 : Int32) &&& 0x3f).toInt64)), .second, .unset, .unset, .unset, .unset, .unset, .unset, .unset, .unset, .unset, .unset, .unset, .unset]) rfl ?_
      show Steps p.tables e below (T3.setTop (mkF m 25 #[.val (.long q1), .second, .val (.long q2), .second, .val (.long q3), .second, .val (.long q4), .second, .val (.long q5), .second, .val (.long q6), .second, .val (.long k1), .second, .val (.long k2), .second, .val (.long k3), .second, .val (.long (q4 >>> ((2 : Int32) &&& 0x3f).toInt64)), .second, .unset, .unset, .unset, .unset, .unset, .unset, .unset, .unset, .unset, .unset, .unset, .unset] [])) _
      rw [← hw1]
      show Steps p.tables e below (T3.setTop (mkF m 25 #[.val (.long q1), .second, .val (.long q2), .second, .val (.long q3), .second, .val (.long q4), .second, .val (.long q5), .second, .val (.long q6), .second, .val (.long k1), .second, .val (.long k2), .second, .val (.long k3), .second, .val (.long w1), .second, .unset, .unset, .unset, .unset, .unset, .unset, .unset, .unset, .unset, .unset, .unset, .unset] [])) _
      refine XS.lload X3.here hx rfl (hb hby at_25) rfl ?_
      show Steps p.tables e below (T3.setTop (mkF m 27 #[.val (.long q1), .second, .val (.long q2), .second, .val (.long q3), .second, .val (.long q4), .second, .val (.long q5), .second, .val (.long q6), .second, .val (.long k1), .second, .val (.long k2), .second, .val (.long k3), .second, .val (.long w1), .second, .unset, .unset, .unset, .unset, .unset, .unset, .unset, .unset, .unset, .unset, .unset, .unset] [(.long q5)])) _
      refine XS.iconst X3.here hx rfl (hb hby at_27) ?_
      show Steps p.tables e below (T3.setTop (mkF m 28 #[.val (.long q1), .second, .val (.long q2), .second, .val (.long q3), .second, .val (.long q4), .second, .val (.long q5), .second, .val (.long q6), .second, .val (.long k1), .second, .val (.long k2), .second, .val (.long k3), .second, .val (.long w1), .second, .unset, .unset, .unset, .unset, .unset, .unset, .unset, .unset, .unset, .unset, .unset, .unset] [(.int (2 : Int32)), (.long q5)])) _
      refine XS.lshr X3.here hx rfl (hb hby at_28) rfl ?_
      show Steps p.tables e below (T3.setTop (mkF m 29 #[.val (.long q1), .second, .val (.long q2), .second, .val (.long q3), .second, .val (.long q4), .second, .val (.long q5), .second, .val (.long q6), .second, .val (.long k1), .second, .val (.long k2), .second, .val (.long k3), .second, .val (.long w1), .second, .unset, .unset, .unset, .unset, .unset, .unset, .unset, .unset, .unset, .unset, .unset, .unset] [(.long (q5 >>> ((2 : Int32) &&& 0x3f).toInt64))])) _
      refine XS.lstore X3.here hx rfl (hb hby at_29) rfl (l' := #[.val (.long q1), .second, .val (.long q2), .second, .val (.long q3), .second, .val (.long q4), .second, .val (.long q5), .second, .val (.long q6), .second, .val (.long k1), .second, .val (.long k2), .second, .val (.long k3), .second, .val (.long w1), .second, .val (.long (q5 >>> ((2 : Int32) &&& 0x3f).toInt64)), .second, .unset, .unset, .unset, .unset, .unset, .unset, .unset, .unset, .unset, .unset]) rfl ?_
      show Steps p.tables e below (T3.setTop (mkF m 31 #[.val (.long q1), .second, .val (.long q2), .second, .val (.long q3), .second, .val (.long q4), .second, .val (.long q5), .second, .val (.long q6), .second, .val (.long k1), .second, .val (.long k2), .second, .val (.long k3), .second, .val (.long w1), .second, .val (.long (q5 >>> ((2 : Int32) &&& 0x3f).toInt64)), .second, .unset, .unset, .unset, .unset, .unset, .unset, .unset, .unset, .unset, .unset] [])) _
      rw [← hw2]
      show Steps p.tables e below (T3.setTop (mkF m 31 #[.val (.long q1), .second, .val (.long q2), .second, .val (.long q3), .second, .val (.long q4), .second, .val (.long q5), .second, .val (.long q6), .second, .val (.long k1), .second, .val (.long k2), .second, .val (.long k3), .second, .val (.long w1), .second, .val (.long w2), .second, .unset, .unset, .unset, .unset, .unset, .unset, .unset, .unset, .unset, .unset] [])) _
      refine XS.lload X3.here hx rfl (hb hby at_31) rfl ?_
      show Steps p.tables e below (T3.setTop (mkF m 33 #[.val (.long q1), .second, .val (.long q2), .second, .val (.long q3), .second, .val (.long q4), .second, .val (.long q5), .second, .val (.long q6), .second, .val (.long k1), .second, .val (.long k2), .second, .val (.long k3), .second, .val (.long w1), .second, .val (.long w2), .second, .unset, .unset, .unset, .unset, .unset, .unset, .unset, .unset, .unset, .unset] [(.long w1)])) _
      refine XS.lload X3.here hx rfl (hb hby at_33) rfl ?_
      show Steps p.tables e below (T3.setTop (mkF m 35 #[.val (.long q1), .second, .val (.long q2), .second, .val (.long q3), .second, .val (.long q4), .second, .val (.long q5), .second, .val (.long q6), .second, .val (.long k1), .second, .val (.long k2), .second, .val (.long k3), .second, .val (.long w1), .second, .val (.long w2), .second, .unset, .unset, .unset, .unset, .unset, .unset, .unset, .unset, .unset, .unset] [(.long w2), (.long w1)])) _
      refine XS.lxor X3.here hx rfl (hb hby at_35) rfl ?_
      show Steps p.tables e below (T3.setTop (mkF m 36 #[.val (.long q1), .second, .val (.long q2), .second, .val (.long q3), .second, .val (.long q4), .second, .val (.long q5), .second, .val (.long q6), .second, .val (.long k1), .second, .val (.long k2), .second, .val (.long k3), .second, .val (.long w1), .second, .val (.long w2), .second, .unset, .unset, .unset, .unset, .unset, .unset, .unset, .unset, .unset, .unset] [(.long (w1 ^^^ w2))])) _
      refine XS.lstore X3.here hx rfl (hb hby at_36) rfl (l' := #[.val (.long q1), .second, .val (.long q2), .second, .val (.long q3), .second, .val (.long q4), .second, .val (.long q5), .second, .val (.long q6), .second, .val (.long k1), .second, .val (.long k2), .second, .val (.long k3), .second, .val (.long w1), .second, .val (.long w2), .second, .val (.long (w1 ^^^ w2)), .second, .unset, .unset, .unset, .unset, .unset, .unset, .unset, .unset]) rfl ?_
      show Steps p.tables e below (T3.setTop (mkF m 38 #[.val (.long q1), .second, .val (.long q2), .second, .val (.long q3), .second, .val (.long q4), .second, .val (.long q5), .second, .val (.long q6), .second, .val (.long k1), .second, .val (.long k2), .second, .val (.long k3), .second, .val (.long w1), .second, .val (.long w2), .second, .val (.long (w1 ^^^ w2)), .second, .unset, .unset, .unset, .unset, .unset, .unset, .unset, .unset] [])) _
      rw [← hw3]
      show Steps p.tables e below (T3.setTop (mkF m 38 #[.val (.long q1), .second, .val (.long q2), .second, .val (.long q3), .second, .val (.long q4), .second, .val (.long q5), .second, .val (.long q6), .second, .val (.long k1), .second, .val (.long k2), .second, .val (.long k3), .second, .val (.long w1), .second, .val (.long w2), .second, .val (.long w3), .second, .unset, .unset, .unset, .unset, .unset, .unset, .unset, .unset] [])) _
      refine XS.lload X3.here hx rfl (hb hby at_38) rfl ?_
      show Steps p.tables e below (T3.setTop (mkF m 40 #[.val (.long q1), .second, .val (.long q2), .second, .val (.long q3), .second, .val (.long q4), .second, .val (.long q5), .second, .val (.long q6), .second, .val (.long k1), .second, .val (.long k2), .second, .val (.long k3), .second, .val (.long w1), .second, .val (.long w2), .second, .val (.long w3), .second, .unset, .unset, .unset, .unset, .unset, .unset, .unset, .unset] [(.long q6)])) _
      refine X3.ldc2Long hx hown (mvT hZ (hw _ (List.mem_of_getElem? (i := 5) rfl))) (g := (mkF m 40 #[.val (.long q1), .second, .val (.long q2), .second, .val (.long q3), .second, .val (.long q4), .second, .val (.long q5), .second, .val (.long q6), .second, .val (.long k1), .second, .val (.long k2), .second, .val (.long k3), .second, .val (.long w1), .second, .val (.long w2), .second, .val (.long w3), .second, .unset, .unset, .unset, .unset, .unset, .unset, .unset, .unset] [(.long q6)])) rfl (hb hby at_40) _ ?_
      show Steps p.tables e below (T3.setTop (mkF m 43 #[.val (.long q1), .second, .val (.long q2), .second, .val (.long q3), .second, .val (.long q4), .second, .val (.long q5), .second, .val (.long q6), .second, .val (.long k1), .second, .val (.long k2), .second, .val (.long k3), .second, .val (.long w1), .second, .val (.long w2), .second, .val (.long w3), .second, .unset, .unset, .unset, .unset, .unset, .unset, .unset, .unset] [(.long (3 : Int64)), (.long q6)])) _
      refine XS.land X3.here hx rfl (hb hby at_43) rfl ?_
      show Steps p.tables e below (T3.setTop (mkF m 44 #[.val (.long q1), .second, .val (.long q2), .second, .val (.long q3), .second, .val (.long q4), .second, .val (.long q5), .second, .val (.long q6), .second, .val (.long k1), .second, .val (.long k2), .second, .val (.long k3), .second, .val (.long w1), .second, .val (.long w2), .second, .val (.long w3), .second, .unset, .unset, .unset, .unset, .unset, .unset, .unset, .unset] [(.long (q6 &&& (3 : Int64)))])) _
      refine XS.l2i X3.here hx rfl (hb hby at_44) rfl ?_
      show Steps p.tables e below (T3.setTop (mkF m 45 #[.val (.long q1), .second, .val (.long q2), .second, .val (.long q3), .second, .val (.long q4), .second, .val (.long q5), .second, .val (.long q6), .second, .val (.long k1), .second, .val (.long k2), .second, .val (.long k3), .second, .val (.long w1), .second, .val (.long w2), .second, .val (.long w3), .second, .unset, .unset, .unset, .unset, .unset, .unset, .unset, .unset] [(.int ((q6 &&& (3 : Int64)).toInt32))])) _
      refine XS.istore X3.here hx rfl (hb hby at_45) rfl (l' := #[.val (.long q1), .second, .val (.long q2), .second, .val (.long q3), .second, .val (.long q4), .second, .val (.long q5), .second, .val (.long q6), .second, .val (.long k1), .second, .val (.long k2), .second, .val (.long k3), .second, .val (.long w1), .second, .val (.long w2), .second, .val (.long w3), .second, .val (.int ((q6 &&& (3 : Int64)).toInt32)), .unset, .unset, .unset, .unset, .unset, .unset, .unset]) rfl ?_
      show Steps p.tables e below (T3.setTop (mkF m 47 #[.val (.long q1), .second, .val (.long q2), .second, .val (.long q3), .second, .val (.long q4), .second, .val (.long q5), .second, .val (.long q6), .second, .val (.long k1), .second, .val (.long k2), .second, .val (.long k3), .second, .val (.long w1), .second, .val (.long w2), .second, .val (.long w3), .second, .val (.int ((q6 &&& (3 : Int64)).toInt32)), .unset, .unset, .unset, .unset, .unset, .unset, .unset] [])) _
      rw [← hnn]
      show Steps p.tables e below (T3.setTop (mkF m 47 #[.val (.long q1), .second, .val (.long q2), .second, .val (.long q3), .second, .val (.long q4), .second, .val (.long q5), .second, .val (.long q6), .second, .val (.long k1), .second, .val (.long k2), .second, .val (.long k3), .second, .val (.long w1), .second, .val (.long w2), .second, .val (.long w3), .second, .val (.int nn), .unset, .unset, .unset, .unset, .unset, .unset, .unset] [])) _
      refine XS.lload X3.here hx rfl (hb hby at_47) rfl ?_
      show Steps p.tables e below (T3.setTop (mkF m 49 #[.val (.long q1), .second, .val (.long q2), .second, .val (.long q3), .second, .val (.long q4), .second, .val (.long q5), .second, .val (.long q6), .second, .val (.long k1), .second, .val (.long k2), .second, .val (.long k3), .second, .val (.long w1), .second, .val (.long w2), .second, .val (.long w3), .second, .val (.int nn), .unset, .unset, .unset, .unset, .unset, .unset, .unset] [(.long q6)])) _
      refine XS.iconst X3.here hx rfl (hb hby at_49) ?_
      show Steps p.tables e below (T3.setTop (mkF m 50 #[.val (.long q1), .second, .val (.long q2), .second, .val (.long q3), .second, .val (.long q4), .second, .val (.long q5), .second, .val (.long q6), .second, .val (.long k1), .second, .val (.long k2), .second, .val (.long k3), .second, .val (.long w1), .second, .val (.long w2), .second, .val (.long w3), .second, .val (.int nn), .unset, .unset, .unset, .unset, .unset, .unset, .unset] [(.int (2 : Int32)), (.long q6)])) _
      refine XS.lshr X3.here hx rfl (hb hby at_50) rfl ?_
      show Steps p.tables e below (T3.setTop (mkF m 51 #[.val (.long q1), .second, .val (.long q2), .second, .val (.long q3), .second, .val (.long q4), .second, .val (.long q5), .second, .val (.long q6), .second, .val (.long k1), .second, .val (.long k2), .second, .val (.long k3), .second, .val (.long w1), .second, .val (.long w2), .second, .val (.long w3), .second, .val (.int nn), .unset, .unset, .unset, .unset, .unset, .unset, .unset] [(.long (q6 >>> ((2 : Int32) &&& 0x3f).toInt64))])) _
      refine XS.lstore X3.here hx rfl (hb hby at_51) rfl (l' := #[.val (.long q1), .second, .val (.long q2), .second, .val (.long q3), .second, .val (.long q4), .second, .val (.long q5), .second, .val (.long q6), .second, .val (.long k1), .second, .val (.long k2), .second, .val (.long k3), .second, .val (.long w1), .second, .val (.long w2), .second, .val (.long w3), .second, .val (.int nn), .val (.long (q6 >>> ((2 : Int32) &&& 0x3f).toInt64)), .second, .unset, .unset, .unset, .unset, .unset]) rfl ?_
      show Steps p.tables e below (T3.setTop (mkF m 53 #[.val (.long q1), .second, .val (.long q2), .second, .val (.long q3), .second, .val (.long q4), .second, .val (.long q5), .second, .val (.long q6), .second, .val (.long k1), .second, .val (.long k2), .second, .val (.long k3), .second, .val (.long w1), .second, .val (.long w2), .second, .val (.long w3), .second, .val (.int nn), .val (.long (q6 >>> ((2 : Int32) &&& 0x3f).toInt64)), .second, .unset, .unset, .unset, .unset, .unset] [])) _
      rw [← hqz]
      show Steps p.tables e below (T3.setTop (mkF m 53 #[.val (.long q1), .second, .val (.long q2), .second, .val (.long q3), .second, .val (.long q4), .second, .val (.long q5), .second, .val (.long q6), .second, .val (.long k1), .second, .val (.long k2), .second, .val (.long k3), .second, .val (.long w1), .second, .val (.long w2), .second, .val (.long w3), .second, .val (.int nn), .val (.long qz), .second, .unset, .unset, .unset, .unset, .unset] [])) _
      refine st4 _ ?_
      show Steps p.tables e below (T4.setTop (mkF m 56 #[.val (.long q1), .second, .val (.long q2), .second, .val (.long q3), .second, .val (.long q4), .second, .val (.long q5), .second, .val (.long q6), .second, .val (.long k1), .second, .val (.long k2), .second, .val (.long k3), .second, .val (.long w1), .second, .val (.long w2), .second, .val (.long w3), .second, .val (.int nn), .val (.long qz), .second, .unset, .unset, .unset, .unset, .unset] [(.ref b4o)])) _
      refine XS.dup X4.here hx rfl (hb hby at_56) rfl rfl ?_
      show Steps p.tables e below (T4.setTop (mkF m 57 #[.val (.long q1), .second, .val (.long q2), .second, .val (.long q3), .second, .val (.long q4), .second, .val (.long q5), .second, .val (.long q6), .second, .val (.long k1), .second, .val (.long k2), .second, .val (.long k3), .second, .val (.long w1), .second, .val (.long w2), .second, .val (.long w3), .second, .val (.int nn), .val (.long qz), .second, .unset, .unset, .unset, .unset, .unset] [(.ref b4o), (.ref b4o)])) _
      refine st5.trans ?_
      show Steps p.tables e below (T5.setTop (mkF m 60 #[.val (.long q1), .second, .val (.long q2), .second, .val (.long q3), .second, .val (.long q4), .second, .val (.long q5), .second, .val (.long q6), .second, .val (.long k1), .second, .val (.long k2), .second, .val (.long k3), .second, .val (.long w1), .second, .val (.long w2), .second, .val (.long w3), .second, .val (.int nn), .val (.long qz), .second, .unset, .unset, .unset, .unset, .unset] [(.ref b4o)])) _
      refine XS.astore X5.here hx rfl (hb hby at_60) rfl rfl (l' := #[.val (.long q1), .second, .val (.long q2), .second, .val (.long q3), .second, .val (.long q4), .second, .val (.long q5), .second, .val (.long q6), .second, .val (.long k1), .second, .val (.long k2), .second, .val (.long k3), .second, .val (.long w1), .second, .val (.long w2), .second, .val (.long w3), .second, .val (.int nn), .val (.long qz), .second, .val (.ref b4o), .unset, .unset, .unset, .unset]) rfl ?_
      show Steps p.tables e below (T5.setTop (mkF m 62 #[.val (.long q1), .second, .val (.long q2), .second, .val (.long q3), .second, .val (.long q4), .second, .val (.long q5), .second, .val (.long q6), .second, .val (.long k1), .second, .val (.long k2), .second, .val (.long k3), .second, .val (.long w1), .second, .val (.long w2), .second, .val (.long w3), .second, .val (.int nn), .val (.long qz), .second, .val (.ref b4o), .unset, .unset, .unset, .unset] [])) _
      refine XS.iload X5.here hx rfl (hb hby at_62) rfl ?_
      show Steps p.tables e below (T5.setTop (mkF m 64 #[.val (.long q1), .second, .val (.long q2), .second, .val (.long q3), .second, .val (.long q4), .second, .val (.long q5), .second, .val (.long q6), .second, .val (.long k1), .second, .val (.long k2), .second, .val (.long k3), .second, .val (.long w1), .second, .val (.long w2), .second, .val (.long w3), .second, .val (.int nn), .val (.long qz), .second, .val (.ref b4o), .unset, .unset, .unset, .unset] [(.int nn)])) _
      refine XS.iconst X5.here hx rfl (hb hby at_64) ?_
      show Steps p.tables e below (T5.setTop (mkF m 65 #[.val (.long q1), .second, .val (.long q2), .second, .val (.long q3), .second, .val (.long q4), .second, .val (.long q5), .second, .val (.long q6), .second, .val (.long k1), .second, .val (.long k2), .second, .val (.long k3), .second, .val (.long w1), .second, .val (.long w2), .second, .val (.long w3), .second, .val (.int nn), .val (.long qz), .second, .val (.ref b4o), .unset, .unset, .unset, .unset] [(.int (1 : Int32)), (.int nn)])) _
      refine XS.icmpYes X5.here hx rfl (pc0 := 65) (pc' := 77) rfl (hb hby at_65) rfl (tlt hc65).1 (by decide) (by decide) ?_
      show Steps p.tables e below (T5.setTop (mkF m 77 #[.val (.long q1), .second, .val (.long q2), .second, .val (.long q3), .second, .val (.long q4), .second, .val (.long q5), .second, .val (.long q6), .second, .val (.long k1), .second, .val (.long k2), .second, .val (.long k3), .second, .val (.long w1), .second, .val (.long w2), .second, .val (.long w3), .second, .val (.int nn), .val (.long qz), .second, .val (.ref b4o), .unset, .unset, .unset, .unset] [])) _
      refine XS.iload X5.here hx rfl (hb hby at_77) rfl ?_
      show Steps p.tables e below (T5.setTop (mkF m 79 #[.val (.long q1), .second, .val (.long q2), .second, .val (.long q3), .second, .val (.long q4), .second, .val (.long q5), .second, .val (.long q6), .second, .val (.long k1), .second, .val (.long k2), .second, .val (.long k3), .second, .val (.long w1), .second, .val (.long w2), .second, .val (.long w3), .second, .val (.int nn), .val (.long qz), .second, .val (.ref b4o), .unset, .unset, .unset, .unset] [(.int nn)])) _
      refine XS.iconst X5.here hx rfl (hb hby at_79) ?_
      show Steps p.tables e below (T5.setTop (mkF m 80 #[.val (.long q1), .second, .val (.long q2), .second, .val (.long q3), .second, .val (.long q4), .second, .val (.long q5), .second, .val (.long q6), .second, .val (.long k1), .second, .val (.long k2), .second, .val (.long k3), .second, .val (.long w1), .second, .val (.long w2), .second, .val (.long w3), .second, .val (.int nn), .val (.long qz), .second, .val (.ref b4o), .unset, .unset, .unset, .unset] [(.int (2 : Int32)), (.int nn)])) _
      refine XS.icmpYes X5.here hx rfl (pc0 := 80) (pc' := 92) rfl (hb hby at_80) rfl (tlt (own_lt12 hc65)).1 (by decide) (by decide) ?_
      show Steps p.tables e below (T5.setTop (mkF m 92 #[.val (.long q1), .second, .val (.long q2), .second, .val (.long q3), .second, .val (.long q4), .second, .val (.long q5), .second, .val (.long q6), .second, .val (.long k1), .second, .val (.long k2), .second, .val (.long k3), .second, .val (.long w1), .second, .val (.long w2), .second, .val (.long w3), .second, .val (.int nn), .val (.long qz), .second, .val (.ref b4o), .unset, .unset, .unset, .unset] [])) _
      refine XS.iload X5.here hx rfl (hb hby at_92) rfl ?_
      show Steps p.tables e below (T5.setTop (mkF m 94 #[.val (.long q1), .second, .val (.long q2), .second, .val (.long q3), .second, .val (.long q4), .second, .val (.long q5), .second, .val (.long q6), .second, .val (.long k1), .second, .val (.long k2), .second, .val (.long k3), .second, .val (.long w1), .second, .val (.long w2), .second, .val (.long w3), .second, .val (.int nn), .val (.long qz), .second, .val (.ref b4o), .unset, .unset, .unset, .unset] [(.int nn)])) _
      refine XS.iconst X5.here hx rfl (hb hby at_94) ?_
      show Steps p.tables e below (T5.setTop (mkF m 95 #[.val (.long q1), .second, .val (.long q2), .second, .val (.long q3), .second, .val (.long q4), .second, .val (.long q5), .second, .val (.long q6), .second, .val (.long k1), .second, .val (.long k2), .second, .val (.long k3), .second, .val (.long w1), .second, .val (.long w2), .second, .val (.long w3), .second, .val (.int nn), .val (.long qz), .second, .val (.ref b4o), .unset, .unset, .unset, .unset] [(.int (3 : Int32)), (.int nn)])) _
      refine XS.icmpYes X5.here hx rfl (pc0 := 95) (pc' := 107) rfl (hb hby at_95) rfl (tlt (own_lt23 (own_lt12 hc65))).1 (by decide) (by decide) ?_
      show Steps p.tables e below (T5.setTop (mkF m 107 #[.val (.long q1), .second, .val (.long q2), .second, .val (.long q3), .second, .val (.long q4), .second, .val (.long q5), .second, .val (.long q6), .second, .val (.long k1), .second, .val (.long k2), .second, .val (.long k3), .second, .val (.long w1), .second, .val (.long w2), .second, .val (.long w3), .second, .val (.int nn), .val (.long qz), .second, .val (.ref b4o), .unset, .unset, .unset, .unset] [])) _
      refine st6 _ ?_
      show Steps p.tables e below (T6.setTop (mkF m 280 #[.val (.long q1), .second, .val (.long q2), .second, .val (.long q3), .second, .val (.long q4), .second, .val (.long q5), .second, .val (.long q6), .second, .val (.long k1), .second, .val (.long k2), .second, .val (.long k3), .second, .val (.long w1), .second, .val (.long w2), .second, .val (.long w3), .second, .val (.int nn), .val (.long qz), .second, .val (.ref b4o), .val (.int (1 : Int32)), .val (.int (1 : Int32)), .val (.int (1 : Int32)), .val (.int (1 : Int32))] [(.int (1 : Int32))])) _
      exact retN X6 hx (t := .boolean) Bd.returns (by simp) (hb hby at_280) hr
    · show Qrm0 Z q1 q2 q3 q4 q5 q6 h0 n0 _ T6.heap _
      exact ⟨rfl, N6⟩
  · obtain ⟨cq7, kq7, q7a, q7b, q7c⟩ := isOf hZ rfl EI5
    obtain ⟨_, _, ⟨T7, L7, k7, n7⟩, -, X7, ⟨Lc7, hQ7, l7, y7, z7⟩, st7⟩ := X5.virtualBack hx (y := (⟨"com/example/pricewright/pricewright/core/LongSumTable", "add", "(JJ)V"⟩ : MethodName)) (z := (⟨"com/example/pricewright/pricewright/core/LongSumTable", "add", "(JJ)V"⟩ : MethodName)) hown (mvT hZ (hw _ (List.mem_of_getElem? (i := 33) rfl))) (mvT hZ (hw _ (List.mem_of_getElem? (i := 34) rfl))) (notFace_of_selects (args := #[]) (mvT hZ (hw _ (List.mem_of_getElem? (i := 36) rfl)))) (mvT hZ (hw _ (List.mem_of_getElem? (i := 36) rfl))) (mvT hZ (hw _ (List.mem_of_getElem? (i := 35) rfl))) (by decide) (backOf (W := 0) (rmA l Z a0 hw [] b4o k1 w1 sa5 sk5 own_new4 (fun _ => False) (fun _ => 0) (0) .null T5.heap n0 Z5 EI5 FS5 FH5 FZ5 FQ5 AV5 (rfl : own_new4.length = 2 * 4) net5 b4 ga5 rp5e (Nat.zero_le 2) hk1 (fun h => h.elim)) hZ (hw _ (List.mem_of_getElem? (i := 37) rfl)) (hw _ (List.mem_of_getElem? (i := 8) rfl)) (by decide) (by decide)) q7a q7c (g := (mkF m 74 #[.val (.long q1), .second, .val (.long q2), .second, .val (.long q3), .second, .val (.long q4), .second, .val (.long q5), .second, .val (.long q6), .second, .val (.long k1), .second, .val (.long k2), .second, .val (.long k3), .second, .val (.long w1), .second, .val (.long w2), .second, .val (.long w3), .second, .val (.int nn), .val (.long qz), .second, .val (.ref b4o), .unset, .unset, .unset, .unset] [(.long w1), (.long k1), (.ref b4o)])) rfl (by rw [hml]; rfl) (Steps.refl _) (argsL := [(.long k1), (.long w1)]) (rest := []) (lenOf pd_3 rfl) rfl (by show 2 * 0 + _ ≤ _; exact Nat.le_of_eq rfl) (hb hby at_74) (fun _ _ => ⟨rfl, rfl, (by decide : 2 + 2 ≤ _), (by decide : 12 + 20 ≤ _)⟩)
    dsimp only [Pt.U, Pt.locs, Pt.cells, Pt.slots] at X7 l7 y7 z7 st7 hQ7
    subst l7 y7 z7
    obtain ⟨rfl, N7q, Z7, nn7, sz7, so7, D7, M7, hD7, hM7, ⟨ta7, tk7, ta7r, ts7, hn7, tg7, tE7, tS7, tH7, tZ7, tQ7, tA7, tl7, tr7⟩, hc7, hl7, hy7, ho7⟩ := hQ7
    have N7 := Fr.app N5 N7q
    obtain ⟨rfl, hz7⟩ : nn7 = 4 ∧ sz7 ≤ 2 := by omega
    obtain rfl := own_sh62 hn7
    have tf7 : ∃ j, j < 4 ∧ own_K ta7r j = own_FREE := own_cnt_free (by rw [tr7.2.2.2]; omega)
    have ne8 : b4o ≠ ta7 := ne_arrV tE7 (hw _ (List.mem_of_getElem? (i := 7) rfl)) tA7
    have hB7 : ∀ x, -2305843009213693952 ≤ (M7 x).toInt ∧ (M7 x).toInt ≤ 2305843009213693952 := own_bnd (B := 0) hM7 (fun x => by show -0 ≤ (0 : Int64).toInt ∧ (0 : Int64).toInt ≤ 0; decide) hb1.1 hb1.2 (by decide) (by decide) (by decide)
    by_cases hc80 : nn < (2 : Int32)
    · have HX : ∀ x, own_e1 (own_e1 (own_e1 (0 : Int64) nn (1 : Int32) k1 x w1) nn (2 : Int32) k2 x w2) nn (3 : Int32) k3 x w3 = M7 x := fun x => ((own_eN (own_lt23 hc80)).trans ((own_eN hc80).trans (own_eY hc65 hM7 rfl)))
      have Xm9 := X7.more (cells' := 8) (slots' := 72) (by decide) (by decide)
      obtain ⟨T9, L9, X9, N9, st9⟩ := own_tail (n := 4) (arr := ta7r) (sh := (62 : Int32)) hx hZ hw hby hml hown Xm9 rfl N7 Z7 (Or.inl ⟨rfl, rfl⟩) tE7 tS7 tH7 tA7 tf7 tr7 hk1 hk2 hk3 hk4 HX
      obtain ⟨fs, hr, hrun, hended, hW, hsame⟩ := X9.leave (v := some (.int (1 : Int32))) (fun h => by rw [Bd.returns] at h; cases h)
      refine ⟨_, _, pre0 _ ?_, hrun, hended, _, _, rfl, ?_, ⟨_, rfl⟩, hW, hsame.mono (by decide) (by decide)⟩
      · show Steps p.tables e below (s₁.setTop (mkF m 0 #[.val (.long q1), .second, .val (.long q2), .second, .val (.long q3), .second, .val (.long q4), .second, .val (.long q5), .second, .val (.long q6), .second, .unset, .unset, .unset, .unset, .unset, .unset, .unset, .unset, .unset, .unset, .unset, .unset, .unset, .unset, .unset, .unset, .unset, .unset, .unset, .unset] [])) _
        refine XS.lloadN X0.here hx rfl (hb hby at_0) rfl ?_
        show Steps p.tables e below (s₁.setTop (mkF m 1 #[.val (.long q1), .second, .val (.long q2), .second, .val (.long q3), .second, .val (.long q4), .second, .val (.long q5), .second, .val (.long q6), .second, .unset, .unset, .unset, .unset, .unset, .unset, .unset, .unset, .unset, .unset, .unset, .unset, .unset, .unset, .unset, .unset, .unset, .unset, .unset, .unset] [(.long q1)])) _
        refine st1 _ ?_
        show Steps p.tables e below (T1.setTop (mkF m 4 #[.val (.long q1), .second, .val (.long q2), .second, .val (.long q3), .second, .val (.long q4), .second, .val (.long q5), .second, .val (.long q6), .second, .unset, .unset, .unset, .unset, .unset, .unset, .unset, .unset, .unset, .unset, .unset, .unset, .unset, .unset, .unset, .unset, .unset, .unset, .unset, .unset] [(.long r1)])) _
        refine XS.lstore X1.here hx rfl (hb hby at_4) rfl (l' := #[.val (.long q1), .second, .val (.long q2), .second, .val (.long q3), .second, .val (.long q4), .second, .val (.long q5), .second, .val (.long q6), .second, .val (.long r1), .second, .unset, .unset, .unset, .unset, .unset, .unset, .unset, .unset, .unset, .unset, .unset, .unset, .unset, .unset, .unset, .unset, .unset, .unset]) rfl ?_
        show Steps p.tables e below (T1.setTop (mkF m 6 #[.val (.long q1), .second, .val (.long q2), .second, .val (.long q3), .second, .val (.long q4), .second, .val (.long q5), .second, .val (.long q6), .second, .val (.long r1), .second, .unset, .unset, .unset, .unset, .unset, .unset, .unset, .unset, .unset, .unset, .unset, .unset, .unset, .unset, .unset, .unset, .unset, .unset] [])) _
        rw [← hek1]
        show Steps p.tables e below (T1.setTop (mkF m 6 #[.val (.long q1), .second, .val (.long q2), .second, .val (.long q3), .second, .val (.long q4), .second, .val (.long q5), .second, .val (.long q6), .second, .val (.long k1), .second, .unset, .unset, .unset, .unset, .unset, .unset, .unset, .unset, .unset, .unset, .unset, .unset, .unset, .unset, .unset, .unset, .unset, .unset] [])) _
        refine XS.lloadN X1.here hx rfl (hb hby at_6) rfl ?_
        show Steps p.tables e below (T1.setTop (mkF m 7 #[.val (.long q1), .second, .val (.long q2), .second, .val (.long q3), .second, .val (.long q4), .second, .val (.long q5), .second, .val (.long q6), .second, .val (.long k1), .second, .unset, .unset, .unset, .unset, .unset, .unset, .unset, .unset, .unset, .unset, .unset, .unset, .unset, .unset, .unset, .unset, .unset, .unset] [(.long q2)])) _
        refine st2 _ ?_
        show Steps p.tables e below (T2.setTop (mkF m 10 #[.val (.long q1), .second, .val (.long q2), .second, .val (.long q3), .second, .val (.long q4), .second, .val (.long q5), .second, .val (.long q6), .second, .val (.long k1), .second, .unset, .unset, .unset, .unset, .unset, .unset, .unset, .unset, .unset, .unset, .unset, .unset, .unset, .unset, .unset, .unset, .unset, .unset] [(.long r2)])) _
        refine XS.lstore X2.here hx rfl (hb hby at_10) rfl (l' := #[.val (.long q1), .second, .val (.long q2), .second, .val (.long q3), .second, .val (.long q4), .second, .val (.long q5), .second, .val (.long q6), .second, .val (.long k1), .second, .val (.long r2), .second, .unset, .unset, .unset, .unset, .unset, .unset, .unset, .unset, .unset, .unset, .unset, .unset, .unset, .unset, .unset, .unset]) rfl ?_
        show Steps p.tables e below (T2.setTop (mkF m 12 #[.val (.long q1), .second, .val (.long q2), .second, .val (.long q3), .second, .val (.long q4), .second, .val (.long q5), .second, .val (.long q6), .second, .val (.long k1), .second, .val (.long r2), .second, .unset, .unset, .unset, .unset, .unset, .unset, .unset, .unset, .unset, .unset, .unset, .unset, .unset, .unset, .unset, .unset] [])) _
        rw [← hek2]
        show Steps p.tables e below (T2.setTop (mkF m 12 #[.val (.long q1), .second, .val (.long q2), .second, .val (.long q3), .second, .val (.long q4), .second, .val (.long q5), .second, .val (.long q6), .second, .val (.long k1), .second, .val (.long k2), .second, .unset, .unset, .unset, .unset, .unset, .unset, .unset, .unset, .unset, .unset, .unset, .unset, .unset, .unset, .unset, .unset] [])) _
        refine XS.lload X2.here hx rfl (hb hby at_12) rfl ?_
        show Steps p.tables e below (T2.setTop (mkF m 14 #[.val (.long q1), .second, .val (.long q2), .second, .val (.long q3), .second, .val (.long q4), .second, .val (.long q5), .second, .val (.long q6), .second, .val (.long k1), .second, .val (.long k2), .second, .unset, .unset, .unset, .unset, .unset, .unset, .unset, .unset, .unset, .unset, .unset, .unset, .unset, .unset, .unset, .unset] [(.long q3)])) _
        refine st3 _ ?_
        show Steps p.tables e below (T3.setTop (mkF m 17 #[.val (.long q1), .second, .val (.long q2), .second, .val (.long q3), .second, .val (.long q4), .second, .val (.long q5), .second, .val (.long q6), .second, .val (.long k1), .second, .val (.long k2), .second, .unset, .unset, .unset, .unset, .unset, .unset, .unset, .unset, .unset, .unset, .unset, .unset, .unset, .unset, .unset, .unset] [(.long r3)])) _
        refine XS.lstore X3.here hx rfl (hb hby at_17) rfl (l' := #[.val (.long q1), .second, .val (.long q2), .second, .val (.long q3), .second, .val (.long q4), .second, .val (.long q5), .second, .val (.long q6), .second, .val (.long k1), .second, .val (.long k2), .second, .val (.long r3), .second, .unset, .unset, .unset, .unset, .unset, .unset, .unset, .unset, .unset, .unset, .unset, .unset, .unset, .unset]) rfl ?_
        show Steps p.tables e below (T3.setTop (mkF m 19 #[.val (.long q1), .second, .val (.long q2), .second, .val (.long q3), .second, .val (.long q4), .second, .val (.long q5), .second, .val (.long q6), .second, .val (.long k1), .second, .val (.long k2), .second, .val (.long r3), .second, .unset, .unset, .unset, .unset, .unset, .unset, .unset, .unset, .unset, .unset, .unset, .unset, .unset, .unset] [])) _
        rw [← hek3]
        show Steps p.tables e below (T3.setTop (mkF m 19 #[.val (.long q1), .second, .val (.long q2), .second, .val (.long q3), .second, .val (.long q4), .second, .val (.long q5), .second, .val (.long q6), .second, .val (.long k1), .second, .val (.long k2), .second, .val (.long k3), .second, .unset, .unset, .unset, .unset, .unset, .unset, .unset, .unset, .unset, .unset, .unset, .unset, .unset, .unset] [])) _
        refine XS.lload X3.here hx rfl (hb hby at_19) rfl ?_
        show Steps p.tables e below (T3.setTop (mkF m 21 #[.val (.long q1), .second, .val (.long q2), .second, .val (.long q3), .second, .val (.long q4), .second, .val (.long q5), .second, .val (.long q6), .second, .val (.long k1), .second, .val (.long k2), .second, .val (.long k3), .second, .unset, .unset, .unset, .unset, .unset, .unset, .unset, .unset, .unset, .unset, .unset, .unset, .unset, .unset] [(.long q4)])) _
        refine XS.iconst X3.here hx rfl (hb hby at_21) ?_
        show Steps p.tables e below (T3.setTop (mkF m 22 #[.val (.long q1), .second, .val (.long q2), .second, .val (.long q3), .second, .val (.long q4), .second, .val (.long q5), .second, .val (.long q6), .second, .val (.long k1), .second, .val (.long k2), .second, .val (.long k3), .second, .unset, .unset, .unset, .unset, .unset, .unset, .unset, .unset, .unset, .unset, .unset, .unset, .unset, .unset] [(.int (2 : Int32)), (.long q4)])) _
        refine XS.lshr X3.here hx rfl (hb hby at_22) rfl ?_
        show Steps p.tables e below (T3.setTop (mkF m 23 #[.val (.long q1), .second, .val (.long q2), .second, .val (.long q3), .second, .val (.long q4), .second, .val (.long q5), .second, .val (.long q6), .second, .val (.long k1), .second, .val (.long k2), .second, .val (.long k3), .second, .unset, .unset, .unset, .unset, .unset, .unset, .unset, .unset, .unset, .unset, .unset, .unset, .unset, .unset] [(.long (q4 >>> ((2 : Int32) &&& 0x3f).toInt64))])) _
        refine XS.lstore X3.here hx rfl (hb hby at_23) rfl (l' := #[.val (.long q1), .second, .val (.long q2), .second, .val (.long q3), .second, .val (.long q4), .second, .val (.long q5), .second, .val (.long q6), .second, .val (.long k1), .second, .val (.long k2), .second, .val (.long k3), .second, .val (.long (q4 >>> ((2 : Int32) &&& 0x3f).toInt64)), .second, .unset, .unset, .unset, .unset, .unset, .unset, .unset, .unset, .unset, .unset, .unset, .unset]) rfl ?_
        show Steps p.tables e below (T3.setTop (mkF m 25 #[.val (.long q1), .second, .val (.long q2), .second, .val (.long q3), .second, .val (.long q4), .second, .val (.long q5), .second, .val (.long q6), .second, .val (.long k1), .second, .val (.long k2), .second, .val (.long k3), .second, .val (.long (q4 >>> ((2 : Int32) &&& 0x3f).toInt64)), .second, .unset, .unset, .unset, .unset, .unset, .unset, .unset, .unset, .unset, .unset, .unset, .unset] [])) _
        rw [← hw1]
        show Steps p.tables e below (T3.setTop (mkF m 25 #[.val (.long q1), .second, .val (.long q2), .second, .val (.long q3), .second, .val (.long q4), .second, .val (.long q5), .second, .val (.long q6), .second, .val (.long k1), .second, .val (.long k2), .second, .val (.long k3), .second, .val (.long w1), .second, .unset, .unset, .unset, .unset, .unset, .unset, .unset, .unset, .unset, .unset, .unset, .unset] [])) _
        refine XS.lload X3.here hx rfl (hb hby at_25) rfl ?_
        show Steps p.tables e below (T3.setTop (mkF m 27 #[.val (.long q1), .second, .val (.long q2), .second, .val (.long q3), .second, .val (.long q4), .second, .val (.long q5), .second, .val (.long q6), .second, .val (.long k1), .second, .val (.long k2), .second, .val (.long k3), .second, .val (.long w1), .second, .unset, .unset, .unset, .unset, .unset, .unset, .unset, .unset, .unset, .unset, .unset, .unset] [(.long q5)])) _
        refine XS.iconst X3.here hx rfl (hb hby at_27) ?_
        show Steps p.tables e below (T3.setTop (mkF m 28 #[.val (.long q1), .second, .val (.long q2), .second, .val (.long q3), .second, .val (.long q4), .second, .val (.long q5), .second, .val (.long q6), .second, .val (.long k1), .second, .val (.long k2), .second, .val (.long k3), .second, .val (.long w1), .second, .unset, .unset, .unset, .unset, .unset, .unset, .unset, .unset, .unset, .unset, .unset, .unset] [(.int (2 : Int32)), (.long q5)])) _
        refine XS.lshr X3.here hx rfl (hb hby at_28) rfl ?_
        show Steps p.tables e below (T3.setTop (mkF m 29 #[.val (.long q1), .second, .val (.long q2), .second, .val (.long q3), .second, .val (.long q4), .second, .val (.long q5), .second, .val (.long q6), .second, .val (.long k1), .second, .val (.long k2), .second, .val (.long k3), .second, .val (.long w1), .second, .unset, .unset, .unset, .unset, .unset, .unset, .unset, .unset, .unset, .unset, .unset, .unset] [(.long (q5 >>> ((2 : Int32) &&& 0x3f).toInt64))])) _
        refine XS.lstore X3.here hx rfl (hb hby at_29) rfl (l' := #[.val (.long q1), .second, .val (.long q2), .second, .val (.long q3), .second, .val (.long q4), .second, .val (.long q5), .second, .val (.long q6), .second, .val (.long k1), .second, .val (.long k2), .second, .val (.long k3), .second, .val (.long w1), .second, .val (.long (q5 >>> ((2 : Int32) &&& 0x3f).toInt64)), .second, .unset, .unset, .unset, .unset, .unset, .unset, .unset, .unset, .unset, .unset]) rfl ?_
        show Steps p.tables e below (T3.setTop (mkF m 31 #[.val (.long q1), .second, .val (.long q2), .second, .val (.long q3), .second, .val (.long q4), .second, .val (.long q5), .second, .val (.long q6), .second, .val (.long k1), .second, .val (.long k2), .second, .val (.long k3), .second, .val (.long w1), .second, .val (.long (q5 >>> ((2 : Int32) &&& 0x3f).toInt64)), .second, .unset, .unset, .unset, .unset, .unset, .unset, .unset, .unset, .unset, .unset] [])) _
        rw [← hw2]
        show Steps p.tables e below (T3.setTop (mkF m 31 #[.val (.long q1), .second, .val (.long q2), .second, .val (.long q3), .second, .val (.long q4), .second, .val (.long q5), .second, .val (.long q6), .second, .val (.long k1), .second, .val (.long k2), .second, .val (.long k3), .second, .val (.long w1), .second, .val (.long w2), .second, .unset, .unset, .unset, .unset, .unset, .unset, .unset, .unset, .unset, .unset] [])) _
        refine XS.lload X3.here hx rfl (hb hby at_31) rfl ?_
        show Steps p.tables e below (T3.setTop (mkF m 33 #[.val (.long q1), .second, .val (.long q2), .second, .val (.long q3), .second, .val (.long q4), .second, .val (.long q5), .second, .val (.long q6), .second, .val (.long k1), .second, .val (.long k2), .second, .val (.long k3), .second, .val (.long w1), .second, .val (.long w2), .second, .unset, .unset, .unset, .unset, .unset, .unset, .unset, .unset, .unset, .unset] [(.long w1)])) _
        refine XS.lload X3.here hx rfl (hb hby at_33) rfl ?_
        show Steps p.tables e below (T3.setTop (mkF m 35 #[.val (.long q1), .second, .val (.long q2), .second, .val (.long q3), .second, .val (.long q4), .second, .val (.long q5), .second, .val (.long q6), .second, .val (.long k1), .second, .val (.long k2), .second, .val (.long k3), .second, .val (.long w1), .second, .val (.long w2), .second, .unset, .unset, .unset, .unset, .unset, .unset, .unset, .unset, .unset, .unset] [(.long w2), (.long w1)])) _
        refine XS.lxor X3.here hx rfl (hb hby at_35) rfl ?_
        show Steps p.tables e below (T3.setTop (mkF m 36 #[.val (.long q1), .second, .val (.long q2), .second, .val (.long q3), .second, .val (.long q4), .second, .val (.long q5), .second, .val (.long q6), .second, .val (.long k1), .second, .val (.long k2), .second, .val (.long k3), .second, .val (.long w1), .second, .val (.long w2), .second, .unset, .unset, .unset, .unset, .unset, .unset, .unset, .unset, .unset, .unset] [(.long (w1 ^^^ w2))])) _
        refine XS.lstore X3.here hx rfl (hb hby at_36) rfl (l' := #[.val (.long q1), .second, .val (.long q2), .second, .val (.long q3), .second, .val (.long q4), .second, .val (.long q5), .second, .val (.long q6), .second, .val (.long k1), .second, .val (.long k2), .second, .val (.long k3), .second, .val (.long w1), .second, .val (.long w2), .second, .val (.long (w1 ^^^ w2)), .second, .unset, .unset, .unset, .unset, .unset, .unset, .unset, .unset]) rfl ?_
        show Steps p.tables e below (T3.setTop (mkF m 38 #[.val (.long q1), .second, .val (.long q2), .second, .val (.long q3), .second, .val (.long q4), .second, .val (.long q5), .second, .val (.long q6), .second, .val (.long k1), .second, .val (.long k2), .second, .val (.long k3), .second, .val (.long w1), .second, .val (.long w2), .second, .val (.long (w1 ^^^ w2)), .second, .unset, .unset, .unset, .unset, .unset, .unset, .unset, .unset] [])) _
        rw [← hw3]
        show Steps p.tables e below (T3.setTop (mkF m 38 #[.val (.long q1), .second, .val (.long q2), .second, .val (.long q3), .second, .val (.long q4), .second, .val (.long q5), .second, .val (.long q6), .second, .val (.long k1), .second, .val (.long k2), .second, .val (.long k3), .second, .val (.long w1), .second, .val (.long w2), .second, .val (.long w3), .second, .unset, .unset, .unset, .unset, .unset, .unset, .unset, .unset] [])) _
        refine XS.lload X3.here hx rfl (hb hby at_38) rfl ?_
        show Steps p.tables e below (T3.setTop (mkF m 40 #[.val (.long q1), .second, .val (.long q2), .second, .val (.long q3), .second, .val (.long q4), .second, .val (.long q5), .second, .val (.long q6), .second, .val (.long k1), .second, .val (.long k2), .second, .val (.long k3), .second, .val (.long w1), .second, .val (.long w2), .second, .val (.long w3), .second, .unset, .unset, .unset, .unset, .unset, .unset, .unset, .unset] [(.long q6)])) _
        refine X3.ldc2Long hx hown (mvT hZ (hw _ (List.mem_of_getElem? (i := 5) rfl))) (g := (mkF m 40 #[.val (.long q1), .second, .val (.long q2), .second, .val (.long q3), .second, .val (.long q4), .second, .val (.long q5), .second, .val (.long q6), .second, .val (.long k1), .second, .val (.long k2), .second, .val (.long k3), .second, .val (.long w1), .second, .val (.long w2), .second, .val (.long w3), .second, .unset, .unset, .unset, .unset, .unset, .unset, .unset, .unset] [(.long q6)])) rfl (hb hby at_40) _ ?_
        show Steps p.tables e below (T3.setTop (mkF m 43 #[.val (.long q1), .second, .val (.long q2), .second, .val (.long q3), .second, .val (.long q4), .second, .val (.long q5), .second, .val (.long q6), .second, .val (.long k1), .second, .val (.long k2), .second, .val (.long k3), .second, .val (.long w1), .second, .val (.long w2), .second, .val (.long w3), .second, .unset, .unset, .unset, .unset, .unset, .unset, .unset, .unset] [(.long (3 : Int64)), (.long q6)])) _
        refine XS.land X3.here hx rfl (hb hby at_43) rfl ?_
        show Steps p.tables e below (T3.setTop (mkF m 44 #[.val (.long q1), .second, .val (.long q2), .second, .val (.long q3), .second, .val (.long q4), .second, .val (.long q5), .second, .val (.long q6), .second, .val (.long k1), .second, .val (.long k2), .second, .val (.long k3), .second, .val (.long w1), .second, .val (.long w2), .second, .val (.long w3), .second, .unset, .unset, .unset, .unset, .unset, .unset, .unset, .unset] [(.long (q6 &&& (3 : Int64)))])) _
        refine XS.l2i X3.here hx rfl (hb hby at_44) rfl ?_
        show Steps p.tables e below (T3.setTop (mkF m 45 #[.val (.long q1), .second, .val (.long q2), .second, .val (.long q3), .second, .val (.long q4), .second, .val (.long q5), .second, .val (.long q6), .second, .val (.long k1), .second, .val (.long k2), .second, .val (.long k3), .second, .val (.long w1), .second, .val (.long w2), .second, .val (.long w3), .second, .unset, .unset, .unset, .unset, .unset, .unset, .unset, .unset] [(.int ((q6 &&& (3 : Int64)).toInt32))])) _
        refine XS.istore X3.here hx rfl (hb hby at_45) rfl (l' := #[.val (.long q1), .second, .val (.long q2), .second, .val (.long q3), .second, .val (.long q4), .second, .val (.long q5), .second, .val (.long q6), .second, .val (.long k1), .second, .val (.long k2), .second, .val (.long k3), .second, .val (.long w1), .second, .val (.long w2), .second, .val (.long w3), .second, .val (.int ((q6 &&& (3 : Int64)).toInt32)), .unset, .unset, .unset, .unset, .unset, .unset, .unset]) rfl ?_
        show Steps p.tables e below (T3.setTop (mkF m 47 #[.val (.long q1), .second, .val (.long q2), .second, .val (.long q3), .second, .val (.long q4), .second, .val (.long q5), .second, .val (.long q6), .second, .val (.long k1), .second, .val (.long k2), .second, .val (.long k3), .second, .val (.long w1), .second, .val (.long w2), .second, .val (.long w3), .second, .val (.int ((q6 &&& (3 : Int64)).toInt32)), .unset, .unset, .unset, .unset, .unset, .unset, .unset] [])) _
        rw [← hnn]
        show Steps p.tables e below (T3.setTop (mkF m 47 #[.val (.long q1), .second, .val (.long q2), .second, .val (.long q3), .second, .val (.long q4), .second, .val (.long q5), .second, .val (.long q6), .second, .val (.long k1), .second, .val (.long k2), .second, .val (.long k3), .second, .val (.long w1), .second, .val (.long w2), .second, .val (.long w3), .second, .val (.int nn), .unset, .unset, .unset, .unset, .unset, .unset, .unset] [])) _
        refine XS.lload X3.here hx rfl (hb hby at_47) rfl ?_
        show Steps p.tables e below (T3.setTop (mkF m 49 #[.val (.long q1), .second, .val (.long q2), .second, .val (.long q3), .second, .val (.long q4), .second, .val (.long q5), .second, .val (.long q6), .second, .val (.long k1), .second, .val (.long k2), .second, .val (.long k3), .second, .val (.long w1), .second, .val (.long w2), .second, .val (.long w3), .second, .val (.int nn), .unset, .unset, .unset, .unset, .unset, .unset, .unset] [(.long q6)])) _
        refine XS.iconst X3.here hx rfl (hb hby at_49) ?_
        show Steps p.tables e below (T3.setTop (mkF m 50 #[.val (.long q1), .second, .val (.long q2), .second, .val (.long q3), .second, .val (.long q4), .second, .val (.long q5), .second, .val (.long q6), .second, .val (.long k1), .second, .val (.long k2), .second, .val (.long k3), .second, .val (.long w1), .second, .val (.long w2), .second, .val (.long w3), .second, .val (.int nn), .unset, .unset, .unset, .unset, .unset, .unset, .unset] [(.int (2 : Int32)), (.long q6)])) _
        refine XS.lshr X3.here hx rfl (hb hby at_50) rfl ?_
        show Steps p.tables e below (T3.setTop (mkF m 51 #[.val (.long q1), .second, .val (.long q2), .second, .val (.long q3), .second, .val (.long q4), .second, .val (.long q5), .second, .val (.long q6), .second, .val (.long k1), .second, .val (.long k2), .second, .val (.long k3), .second, .val (.long w1), .second, .val (.long w2), .second, .val (.long w3), .second, .val (.int nn), .unset, .unset, .unset, .unset, .unset, .unset, .unset] [(.long (q6 >>> ((2 : Int32) &&& 0x3f).toInt64))])) _
        refine XS.lstore X3.here hx rfl (hb hby at_51) rfl (l' := #[.val (.long q1), .second, .val (.long q2), .second, .val (.long q3), .second, .val (.long q4), .second, .val (.long q5), .second, .val (.long q6), .second, .val (.long k1), .second, .val (.long k2), .second, .val (.long k3), .second, .val (.long w1), .second, .val (.long w2), .second, .val (.long w3), .second, .val (.int nn), .val (.long (q6 >>> ((2 : Int32) &&& 0x3f).toInt64)), .second, .unset, .unset, .unset, .unset, .unset]) rfl ?_
        show Steps p.tables e below (T3.setTop (mkF m 53 #[.val (.long q1), .second, .val (.long q2), .second, .val (.long q3), .second, .val (.long q4), .second, .val (.long q5), .second, .val (.long q6), .second, .val (.long k1), .second, .val (.long k2), .second, .val (.long k3), .second, .val (.long w1), .second, .val (.long w2), .second, .val (.long w3), .second, .val (.int nn), .val (.long (q6 >>> ((2 : Int32) &&& 0x3f).toInt64)), .second, .unset, .unset, .unset, .unset, .unset] [])) _
        rw [← hqz]
        show Steps p.tables e below (T3.setTop (mkF m 53 #[.val (.long q1), .second, .val (.long q2), .second, .val (.long q3), .second, .val (.long q4), .second, .val (.long q5), .second, .val (.long q6), .second, .val (.long k1), .second, .val (.long k2), .second, .val (.long k3), .second, .val (.long w1), .second, .val (.long w2), .second, .val (.long w3), .second, .val (.int nn), .val (.long qz), .second, .unset, .unset, .unset, .unset, .unset] [])) _
        refine st4 _ ?_
        show Steps p.tables e below (T4.setTop (mkF m 56 #[.val (.long q1), .second, .val (.long q2), .second, .val (.long q3), .second, .val (.long q4), .second, .val (.long q5), .second, .val (.long q6), .second, .val (.long k1), .second, .val (.long k2), .second, .val (.long k3), .second, .val (.long w1), .second, .val (.long w2), .second, .val (.long w3), .second, .val (.int nn), .val (.long qz), .second, .unset, .unset, .unset, .unset, .unset] [(.ref b4o)])) _
        refine XS.dup X4.here hx rfl (hb hby at_56) rfl rfl ?_
        show Steps p.tables e below (T4.setTop (mkF m 57 #[.val (.long q1), .second, .val (.long q2), .second, .val (.long q3), .second, .val (.long q4), .second, .val (.long q5), .second, .val (.long q6), .second, .val (.long k1), .second, .val (.long k2), .second, .val (.long k3), .second, .val (.long w1), .second, .val (.long w2), .second, .val (.long w3), .second, .val (.int nn), .val (.long qz), .second, .unset, .unset, .unset, .unset, .unset] [(.ref b4o), (.ref b4o)])) _
        refine st5.trans ?_
        show Steps p.tables e below (T5.setTop (mkF m 60 #[.val (.long q1), .second, .val (.long q2), .second, .val (.long q3), .second, .val (.long q4), .second, .val (.long q5), .second, .val (.long q6), .second, .val (.long k1), .second, .val (.long k2), .second, .val (.long k3), .second, .val (.long w1), .second, .val (.long w2), .second, .val (.long w3), .second, .val (.int nn), .val (.long qz), .second, .unset, .unset, .unset, .unset, .unset] [(.ref b4o)])) _
        refine XS.astore X5.here hx rfl (hb hby at_60) rfl rfl (l' := #[.val (.long q1), .second, .val (.long q2), .second, .val (.long q3), .second, .val (.long q4), .second, .val (.long q5), .second, .val (.long q6), .second, .val (.long k1), .second, .val (.long k2), .second, .val (.long k3), .second, .val (.long w1), .second, .val (.long w2), .second, .val (.long w3), .second, .val (.int nn), .val (.long qz), .second, .val (.ref b4o), .unset, .unset, .unset, .unset]) rfl ?_
        show Steps p.tables e below (T5.setTop (mkF m 62 #[.val (.long q1), .second, .val (.long q2), .second, .val (.long q3), .second, .val (.long q4), .second, .val (.long q5), .second, .val (.long q6), .second, .val (.long k1), .second, .val (.long k2), .second, .val (.long k3), .second, .val (.long w1), .second, .val (.long w2), .second, .val (.long w3), .second, .val (.int nn), .val (.long qz), .second, .val (.ref b4o), .unset, .unset, .unset, .unset] [])) _
        refine XS.iload X5.here hx rfl (hb hby at_62) rfl ?_
        show Steps p.tables e below (T5.setTop (mkF m 64 #[.val (.long q1), .second, .val (.long q2), .second, .val (.long q3), .second, .val (.long q4), .second, .val (.long q5), .second, .val (.long q6), .second, .val (.long k1), .second, .val (.long k2), .second, .val (.long k3), .second, .val (.long w1), .second, .val (.long w2), .second, .val (.long w3), .second, .val (.int nn), .val (.long qz), .second, .val (.ref b4o), .unset, .unset, .unset, .unset] [(.int nn)])) _
        refine XS.iconst X5.here hx rfl (hb hby at_64) ?_
        show Steps p.tables e below (T5.setTop (mkF m 65 #[.val (.long q1), .second, .val (.long q2), .second, .val (.long q3), .second, .val (.long q4), .second, .val (.long q5), .second, .val (.long q6), .second, .val (.long k1), .second, .val (.long k2), .second, .val (.long k3), .second, .val (.long w1), .second, .val (.long w2), .second, .val (.long w3), .second, .val (.int nn), .val (.long qz), .second, .val (.ref b4o), .unset, .unset, .unset, .unset] [(.int (1 : Int32)), (.int nn)])) _
        refine XS.icmpNo X5.here hx rfl (hb hby at_65) rfl (flt hc65).1 ?_
        show Steps p.tables e below (T5.setTop (mkF m 68 #[.val (.long q1), .second, .val (.long q2), .second, .val (.long q3), .second, .val (.long q4), .second, .val (.long q5), .second, .val (.long q6), .second, .val (.long k1), .second, .val (.long k2), .second, .val (.long k3), .second, .val (.long w1), .second, .val (.long w2), .second, .val (.long w3), .second, .val (.int nn), .val (.long qz), .second, .val (.ref b4o), .unset, .unset, .unset, .unset] [])) _
        refine XS.aload X5.here hx rfl (hb hby at_68) rfl rfl ?_
        show Steps p.tables e below (T5.setTop (mkF m 70 #[.val (.long q1), .second, .val (.long q2), .second, .val (.long q3), .second, .val (.long q4), .second, .val (.long q5), .second, .val (.long q6), .second, .val (.long k1), .second, .val (.long k2), .second, .val (.long k3), .second, .val (.long w1), .second, .val (.long w2), .second, .val (.long w3), .second, .val (.int nn), .val (.long qz), .second, .val (.ref b4o), .unset, .unset, .unset, .unset] [(.ref b4o)])) _
        refine XS.lload X5.here hx rfl (hb hby at_70) rfl ?_
        show Steps p.tables e below (T5.setTop (mkF m 72 #[.val (.long q1), .second, .val (.long q2), .second, .val (.long q3), .second, .val (.long q4), .second, .val (.long q5), .second, .val (.long q6), .second, .val (.long k1), .second, .val (.long k2), .second, .val (.long k3), .second, .val (.long w1), .second, .val (.long w2), .second, .val (.long w3), .second, .val (.int nn), .val (.long qz), .second, .val (.ref b4o), .unset, .unset, .unset, .unset] [(.long k1), (.ref b4o)])) _
        refine XS.lload X5.here hx rfl (hb hby at_72) rfl ?_
        show Steps p.tables e below (T5.setTop (mkF m 74 #[.val (.long q1), .second, .val (.long q2), .second, .val (.long q3), .second, .val (.long q4), .second, .val (.long q5), .second, .val (.long q6), .second, .val (.long k1), .second, .val (.long k2), .second, .val (.long k3), .second, .val (.long w1), .second, .val (.long w2), .second, .val (.long w3), .second, .val (.int nn), .val (.long qz), .second, .val (.ref b4o), .unset, .unset, .unset, .unset] [(.long w1), (.long k1), (.ref b4o)])) _
        refine st7.trans ?_
        show Steps p.tables e below (T7.setTop (mkF m 77 #[.val (.long q1), .second, .val (.long q2), .second, .val (.long q3), .second, .val (.long q4), .second, .val (.long q5), .second, .val (.long q6), .second, .val (.long k1), .second, .val (.long k2), .second, .val (.long k3), .second, .val (.long w1), .second, .val (.long w2), .second, .val (.long w3), .second, .val (.int nn), .val (.long qz), .second, .val (.ref b4o), .unset, .unset, .unset, .unset] [])) _
        refine XS.iload X7.here hx rfl (hb hby at_77) rfl ?_
        show Steps p.tables e below (T7.setTop (mkF m 79 #[.val (.long q1), .second, .val (.long q2), .second, .val (.long q3), .second, .val (.long q4), .second, .val (.long q5), .second, .val (.long q6), .second, .val (.long k1), .second, .val (.long k2), .second, .val (.long k3), .second, .val (.long w1), .second, .val (.long w2), .second, .val (.long w3), .second, .val (.int nn), .val (.long qz), .second, .val (.ref b4o), .unset, .unset, .unset, .unset] [(.int nn)])) _
        refine XS.iconst X7.here hx rfl (hb hby at_79) ?_
        show Steps p.tables e below (T7.setTop (mkF m 80 #[.val (.long q1), .second, .val (.long q2), .second, .val (.long q3), .second, .val (.long q4), .second, .val (.long q5), .second, .val (.long q6), .second, .val (.long k1), .second, .val (.long k2), .second, .val (.long k3), .second, .val (.long w1), .second, .val (.long w2), .second, .val (.long w3), .second, .val (.int nn), .val (.long qz), .second, .val (.ref b4o), .unset, .unset, .unset, .unset] [(.int (2 : Int32)), (.int nn)])) _
        refine XS.icmpYes X7.here hx rfl (pc0 := 80) (pc' := 92) rfl (hb hby at_80) rfl (tlt hc80).1 (by decide) (by decide) ?_
        show Steps p.tables e below (T7.setTop (mkF m 92 #[.val (.long q1), .second, .val (.long q2), .second, .val (.long q3), .second, .val (.long q4), .second, .val (.long q5), .second, .val (.long q6), .second, .val (.long k1), .second, .val (.long k2), .second, .val (.long k3), .second, .val (.long w1), .second, .val (.long w2), .second, .val (.long w3), .second, .val (.int nn), .val (.long qz), .second, .val (.ref b4o), .unset, .unset, .unset, .unset] [])) _
        refine XS.iload X7.here hx rfl (hb hby at_92) rfl ?_
        show Steps p.tables e below (T7.setTop (mkF m 94 #[.val (.long q1), .second, .val (.long q2), .second, .val (.long q3), .second, .val (.long q4), .second, .val (.long q5), .second, .val (.long q6), .second, .val (.long k1), .second, .val (.long k2), .second, .val (.long k3), .second, .val (.long w1), .second, .val (.long w2), .second, .val (.long w3), .second, .val (.int nn), .val (.long qz), .second, .val (.ref b4o), .unset, .unset, .unset, .unset] [(.int nn)])) _
        refine XS.iconst X7.here hx rfl (hb hby at_94) ?_
        show Steps p.tables e below (T7.setTop (mkF m 95 #[.val (.long q1), .second, .val (.long q2), .second, .val (.long q3), .second, .val (.long q4), .second, .val (.long q5), .second, .val (.long q6), .second, .val (.long k1), .second, .val (.long k2), .second, .val (.long k3), .second, .val (.long w1), .second, .val (.long w2), .second, .val (.long w3), .second, .val (.int nn), .val (.long qz), .second, .val (.ref b4o), .unset, .unset, .unset, .unset] [(.int (3 : Int32)), (.int nn)])) _
        refine XS.icmpYes X7.here hx rfl (pc0 := 95) (pc' := 107) rfl (hb hby at_95) rfl (tlt (own_lt23 hc80)).1 (by decide) (by decide) ?_
        show Steps p.tables e below (T7.setTop (mkF m 107 #[.val (.long q1), .second, .val (.long q2), .second, .val (.long q3), .second, .val (.long q4), .second, .val (.long q5), .second, .val (.long q6), .second, .val (.long k1), .second, .val (.long k2), .second, .val (.long k3), .second, .val (.long w1), .second, .val (.long w2), .second, .val (.long w3), .second, .val (.int nn), .val (.long qz), .second, .val (.ref b4o), .unset, .unset, .unset, .unset] [])) _
        refine st9 _ ?_
        show Steps p.tables e below (T9.setTop (mkF m 280 #[.val (.long q1), .second, .val (.long q2), .second, .val (.long q3), .second, .val (.long q4), .second, .val (.long q5), .second, .val (.long q6), .second, .val (.long k1), .second, .val (.long k2), .second, .val (.long k3), .second, .val (.long w1), .second, .val (.long w2), .second, .val (.long w3), .second, .val (.int nn), .val (.long qz), .second, .val (.ref b4o), .val (.int (1 : Int32)), .val (.int (1 : Int32)), .val (.int (1 : Int32)), .val (.int (1 : Int32))] [(.int (1 : Int32))])) _
        exact retN X9 hx (t := .boolean) Bd.returns (by simp) (hb hby at_280) hr
      · show Qrm0 Z q1 q2 q3 q4 q5 q6 h0 n0 _ T9.heap _
        exact ⟨rfl, N9⟩
    · obtain ⟨cq10, kq10, q10a, q10b, q10c⟩ := isOf hZ rfl tE7
      obtain ⟨_, _, ⟨T10, L10, k10, n10⟩, -, X10, ⟨Lc10, hQ10, l10, y10, z10⟩, st10⟩ := X7.virtualBack hx (y := (⟨"com/example/pricewright/pricewright/core/LongSumTable", "add", "(JJ)V"⟩ : MethodName)) (z := (⟨"com/example/pricewright/pricewright/core/LongSumTable", "add", "(JJ)V"⟩ : MethodName)) hown (mvT hZ (hw _ (List.mem_of_getElem? (i := 33) rfl))) (mvT hZ (hw _ (List.mem_of_getElem? (i := 34) rfl))) (notFace_of_selects (args := #[]) (mvT hZ (hw _ (List.mem_of_getElem? (i := 36) rfl)))) (mvT hZ (hw _ (List.mem_of_getElem? (i := 36) rfl))) (mvT hZ (hw _ (List.mem_of_getElem? (i := 35) rfl))) (by decide) (backOf (W := 0) (rmA l Z a0 hw [] b4o k2 w2 ta7 tk7 ta7r D7 M7 (sz7) so7 T7.heap n0 Z7 tE7 tS7 tH7 tZ7 tQ7 tA7 tl7 ne8 b4 tg7 tr7 hz7 hk2 (fun _ => own_ovf (by have := hB7 k2; have := hb2; omega) (by have := hB7 k2; have := hb2; omega))) hZ (hw _ (List.mem_of_getElem? (i := 37) rfl)) (hw _ (List.mem_of_getElem? (i := 8) rfl)) (by decide) (by decide)) q10a q10c (g := (mkF m 89 #[.val (.long q1), .second, .val (.long q2), .second, .val (.long q3), .second, .val (.long q4), .second, .val (.long q5), .second, .val (.long q6), .second, .val (.long k1), .second, .val (.long k2), .second, .val (.long k3), .second, .val (.long w1), .second, .val (.long w2), .second, .val (.long w3), .second, .val (.int nn), .val (.long qz), .second, .val (.ref b4o), .unset, .unset, .unset, .unset] [(.long w2), (.long k2), (.ref b4o)])) rfl (by rw [hml]; rfl) (Steps.refl _) (argsL := [(.long k2), (.long w2)]) (rest := []) (lenOf pd_3 rfl) rfl (by show 2 * 0 + _ ≤ _; exact Nat.le_of_eq rfl) (hb hby at_89) (fun _ _ => ⟨rfl, rfl, (by decide : 4 + 2 ≤ _), (by decide : 32 + 20 ≤ _)⟩)
      dsimp only [Pt.U, Pt.locs, Pt.cells, Pt.slots] at X10 l10 y10 z10 st10 hQ10
      subst l10 y10 z10
      obtain ⟨rfl, N10q, Z10, nn10, sz10, so10, D10, M10, hD10, hM10, ⟨ta10, tk10, ta10r, ts10, hn10, tg10, tE10, tS10, tH10, tZ10, tQ10, tA10, tl10, tr10⟩, hc10, hl10, hy10, ho10⟩ := hQ10
      have N10 := Fr.app N7 N10q
      obtain ⟨rfl, hz10⟩ : nn10 = 4 ∧ sz10 ≤ 2 := by omega
      obtain rfl := own_sh62 hn10
      have tf10 : ∃ j, j < 4 ∧ own_K ta10r j = own_FREE := own_cnt_free (by rw [tr10.2.2.2]; omega)
      have ne11 : b4o ≠ ta10 := ne_arrV tE10 (hw _ (List.mem_of_getElem? (i := 7) rfl)) tA10
      have hB10 : ∀ x, -4611686018427387904 ≤ (M10 x).toInt ∧ (M10 x).toInt ≤ 4611686018427387904 := own_bnd (B := 2305843009213693952) hM10 hB7 hb2.1 hb2.2 (by decide) (by decide) (by decide)
      by_cases hc95 : nn < (3 : Int32)
      · have HX : ∀ x, own_e1 (own_e1 (own_e1 (0 : Int64) nn (1 : Int32) k1 x w1) nn (2 : Int32) k2 x w2) nn (3 : Int32) k3 x w3 = M10 x := fun x => ((own_eN hc95).trans (own_eY hc80 hM10 (own_eY hc65 hM7 rfl)))
        have Xm12 := X10.more (cells' := 8) (slots' := 72) (by decide) (by decide)
        obtain ⟨T12, L12, X12, N12, st12⟩ := own_tail (n := 4) (arr := ta10r) (sh := (62 : Int32)) hx hZ hw hby hml hown Xm12 rfl N10 Z10 (Or.inl ⟨rfl, rfl⟩) tE10 tS10 tH10 tA10 tf10 tr10 hk1 hk2 hk3 hk4 HX
        obtain ⟨fs, hr, hrun, hended, hW, hsame⟩ := X12.leave (v := some (.int (1 : Int32))) (fun h => by rw [Bd.returns] at h; cases h)
        refine ⟨_, _, pre0 _ ?_, hrun, hended, _, _, rfl, ?_, ⟨_, rfl⟩, hW, hsame.mono (by decide) (by decide)⟩
        · show Steps p.tables e below (s₁.setTop (mkF m 0 #[.val (.long q1), .second, .val (.long q2), .second, .val (.long q3), .second, .val (.long q4), .second, .val (.long q5), .second, .val (.long q6), .second, .unset, .unset, .unset, .unset, .unset, .unset, .unset, .unset, .unset, .unset, .unset, .unset, .unset, .unset, .unset, .unset, .unset, .unset, .unset, .unset] [])) _
          refine XS.lloadN X0.here hx rfl (hb hby at_0) rfl ?_
          show Steps p.tables e below (s₁.setTop (mkF m 1 #[.val (.long q1), .second, .val (.long q2), .second, .val (.long q3), .second, .val (.long q4), .second, .val (.long q5), .second, .val (.long q6), .second, .unset, .unset, .unset, .unset, .unset, .unset, .unset, .unset, .unset, .unset, .unset, .unset, .unset, .unset, .unset, .unset, .unset, .unset, .unset, .unset] [(.long q1)])) _
          refine st1 _ ?_
          show Steps p.tables e below (T1.setTop (mkF m 4 #[.val (.long q1), .second, .val (.long q2), .second, .val (.long q3), .second, .val (.long q4), .second, .val (.long q5), .second, .val (.long q6), .second, .unset, .unset, .unset, .unset, .unset, .unset, .unset, .unset, .unset, .unset, .unset, .unset, .unset, .unset, .unset, .unset, .unset, .unset, .unset, .unset] [(.long r1)])) _
          refine XS.lstore X1.here hx rfl (hb hby at_4) rfl (l' := #[.val (.long q1), .second, .val (.long q2), .second, .val (.long q3), .second, .val (.long q4), .second, .val (.long q5), .second, .val (.long q6), .second, .val (.long r1), .second, .unset, .unset, .unset, .unset, .unset, .unset, .unset, .unset, .unset, .unset, .unset, .unset, .unset, .unset, .unset, .unset, .unset, .unset]) rfl ?_
          show Steps p.tables e below (T1.setTop (mkF m 6 #[.val (.long q1), .second, .val (.long q2), .second, .val (.long q3), .second, .val (.long q4), .second, .val (.long q5), .second, .val (.long q6), .second, .val (.long r1), .second, .unset, .unset, .unset, .unset, .unset, .unset, .unset, .unset, .unset, .unset, .unset, .unset, .unset, .unset, .unset, .unset, .unset, .unset] [])) _
          rw [← hek1]
          show Steps p.tables e below (T1.setTop (mkF m 6 #[.val (.long q1), .second, .val (.long q2), .second, .val (.long q3), .second, .val (.long q4), .second, .val (.long q5), .second, .val (.long q6), .second, .val (.long k1), .second, .unset, .unset, .unset, .unset, .unset, .unset, .unset, .unset, .unset, .unset, .unset, .unset, .unset, .unset, .unset, .unset, .unset, .unset] [])) _
          refine XS.lloadN X1.here hx rfl (hb hby at_6) rfl ?_
          show Steps p.tables e below (T1.setTop (mkF m 7 #[.val (.long q1), .second, .val (.long q2), .second, .val (.long q3), .second, .val (.long q4), .second, .val (.long q5), .second, .val (.long q6), .second, .val (.long k1), .second, .unset, .unset, .unset, .unset, .unset, .unset, .unset, .unset, .unset, .unset, .unset, .unset, .unset, .unset, .unset, .unset, .unset, .unset] [(.long q2)])) _
          refine st2 _ ?_
          show Steps p.tables e below (T2.setTop (mkF m 10 #[.val (.long q1), .second, .val (.long q2), .second, .val (.long q3), .second, .val (.long q4), .second, .val (.long q5), .second, .val (.long q6), .second, .val (.long k1), .second, .unset, .unset, .unset, .unset, .unset, .unset, .unset, .unset, .unset, .unset, .unset, .unset, .unset, .unset, .unset, .unset, .unset, .unset] [(.long r2)])) _
          refine XS.lstore X2.here hx rfl (hb hby at_10) rfl (l' := #[.val (.long q1), .second, .val (.long q2), .second, .val (.long q3), .second, .val (.long q4), .second, .val (.long q5), .second, .val (.long q6), .second, .val (.long k1), .second, .val (.long r2), .second, .unset, .unset, .unset, .unset, .unset, .unset, .unset, .unset, .unset, .unset, .unset, .unset, .unset, .unset, .unset, .unset]) rfl ?_
          show Steps p.tables e below (T2.setTop (mkF m 12 #[.val (.long q1), .second, .val (.long q2), .second, .val (.long q3), .second, .val (.long q4), .second, .val (.long q5), .second, .val (.long q6), .second, .val (.long k1), .second, .val (.long r2), .second, .unset, .unset, .unset, .unset, .unset, .unset, .unset, .unset, .unset, .unset, .unset, .unset, .unset, .unset, .unset, .unset] [])) _
          rw [← hek2]
          show Steps p.tables e below (T2.setTop (mkF m 12 #[.val (.long q1), .second, .val (.long q2), .second, .val (.long q3), .second, .val (.long q4), .second, .val (.long q5), .second, .val (.long q6), .second, .val (.long k1), .second, .val (.long k2), .second, .unset, .unset, .unset, .unset, .unset, .unset, .unset, .unset, .unset, .unset, .unset, .unset, .unset, .unset, .unset, .unset] [])) _
          refine XS.lload X2.here hx rfl (hb hby at_12) rfl ?_
          show Steps p.tables e below (T2.setTop (mkF m 14 #[.val (.long q1), .second, .val (.long q2), .second, .val (.long q3), .second, .val (.long q4), .second, .val (.long q5), .second, .val (.long q6), .second, .val (.long k1), .second, .val (.long k2), .second, .unset, .unset, .unset, .unset, .unset, .unset, .unset, .unset, .unset, .unset, .unset, .unset, .unset, .unset, .unset, .unset] [(.long q3)])) _
          refine st3 _ ?_
          show Steps p.tables e below (T3.setTop (mkF m 17 #[.val (.long q1), .second, .val (.long q2), .second, .val (.long q3), .second, .val (.long q4), .second, .val (.long q5), .second, .val (.long q6), .second, .val (.long k1), .second, .val (.long k2), .second, .unset, .unset, .unset, .unset, .unset, .unset, .unset, .unset, .unset, .unset, .unset, .unset, .unset, .unset, .unset, .unset] [(.long r3)])) _
          refine XS.lstore X3.here hx rfl (hb hby at_17) rfl (l' := #[.val (.long q1), .second, .val (.long q2), .second, .val (.long q3), .second, .val (.long q4), .second, .val (.long q5), .second, .val (.long q6), .second, .val (.long k1), .second, .val (.long k2), .second, .val (.long r3), .second, .unset, .unset, .unset, .unset, .unset, .unset, .unset, .unset, .unset, .unset, .unset, .unset, .unset, .unset]) rfl ?_
          show Steps p.tables e below (T3.setTop (mkF m 19 #[.val (.long q1), .second, .val (.long q2), .second, .val (.long q3), .second, .val (.long q4), .second, .val (.long q5), .second, .val (.long q6), .second, .val (.long k1), .second, .val (.long k2), .second, .val (.long r3), .second, .unset, .unset, .unset, .unset, .unset, .unset, .unset, .unset, .unset, .unset, .unset, .unset, .unset, .unset] [])) _
          rw [← hek3]
          show Steps p.tables e below (T3.setTop (mkF m 19 #[.val (.long q1), .second, .val (.long q2), .second, .val (.long q3), .second, .val (.long q4), .second, .val (.long q5), .second, .val (.long q6), .second, .val (.long k1), .second, .val (.long k2), .second, .val (.long k3), .second, .unset, .unset, .unset, .unset, .unset, .unset, .unset, .unset, .unset, .unset, .unset, .unset, .unset, .unset] [])) _
          refine XS.lload X3.here hx rfl (hb hby at_19) rfl ?_
          show Steps p.tables e below (T3.setTop (mkF m 21 #[.val (.long q1), .second, .val (.long q2), .second, .val (.long q3), .second, .val (.long q4), .second, .val (.long q5), .second, .val (.long q6), .second, .val (.long k1), .second, .val (.long k2), .second, .val (.long k3), .second, .unset, .unset, .unset, .unset, .unset, .unset, .unset, .unset, .unset, .unset, .unset, .unset, .unset, .unset] [(.long q4)])) _
          refine XS.iconst X3.here hx rfl (hb hby at_21) ?_
          show Steps p.tables e below (T3.setTop (mkF m 22 #[.val (.long q1), .second, .val (.long q2), .second, .val (.long q3), .second, .val (.long q4), .second, .val (.long q5), .second, .val (.long q6), .second, .val (.long k1), .second, .val (.long k2), .second, .val (.long k3), .second, .unset, .unset, .unset, .unset, .unset, .unset, .unset, .unset, .unset, .unset, .unset, .unset, .unset, .unset] [(.int (2 : Int32)), (.long q4)])) _
          refine XS.lshr X3.here hx rfl (hb hby at_22) rfl ?_
          show Steps p.tables e below (T3.setTop (mkF m 23 #[.val (.long q1), .second, .val (.long q2), .second, .val (.long q3), .second, .val (.long q4), .second, .val (.long q5), .second, .val (.long q6), .second, .val (.long k1), .second, .val (.long k2), .second, .val (.long k3), .second, .unset, .unset, .unset, .unset, .unset, .unset, .unset, .unset, .unset, .unset, .unset, .unset, .unset, .unset] [(.long (q4 >>> ((2 : Int32) &&& 0x3f).toInt64))])) _
          refine XS.lstore X3.here hx rfl (hb hby at_23) rfl (l' := #[.val (.long q1), .second, .val (.long q2), .second, .val (.long q3), .second, .val (.long q4), .second, .val (.long q5), .second, .val (.long q6), .second, .val (.long k1), .second, .val (.long k2), .second, .val (.long k3), .second, .val (.long (q4 >>> ((2 : Int32) &&& 0x3f).toInt64)), .second, .unset, .unset, .unset, .unset, .unset, .unset, .unset, .unset, .unset, .unset, .unset, .unset]) rfl ?_
          show Steps p.tables e below (T3.setTop (mkF m 25 #[.val (.long q1), .second, .val (.long q2), .second, .val (.long q3), .second, .val (.long q4), .second, .val (.long q5), .second, .val (.long q6), .second, .val (.long k1), .second, .val (.long k2), .second, .val (.long k3), .second, .val (.long (q4 >>> ((2 : Int32) &&& 0x3f).toInt64)), .second, .unset, .unset, .unset, .unset, .unset, .unset, .unset, .unset, .unset, .unset, .unset, .unset] [])) _
          rw [← hw1]
          show Steps p.tables e below (T3.setTop (mkF m 25 #[.val (.long q1), .second, .val (.long q2), .second, .val (.long q3), .second, .val (.long q4), .second, .val (.long q5), .second, .val (.long q6), .second, .val (.long k1), .second, .val (.long k2), .second, .val (.long k3), .second, .val (.long w1), .second, .unset, .unset, .unset, .unset, .unset, .unset, .unset, .unset, .unset, .unset, .unset, .unset] [])) _
          refine XS.lload X3.here hx rfl (hb hby at_25) rfl ?_
          show Steps p.tables e below (T3.setTop (mkF m 27 #[.val (.long q1), .second, .val (.long q2), .second, .val (.long q3), .second, .val (.long q4), .second, .val (.long q5), .second, .val (.long q6), .second, .val (.long k1), .second, .val (.long k2), .second, .val (.long k3), .second, .val (.long w1), .second, .unset, .unset, .unset, .unset, .unset, .unset, .unset, .unset, .unset, .unset, .unset, .unset] [(.long q5)])) _
          refine XS.iconst X3.here hx rfl (hb hby at_27) ?_
          show Steps p.tables e below (T3.setTop (mkF m 28 #[.val (.long q1), .second, .val (.long q2), .second, .val (.long q3), .second, .val (.long q4), .second, .val (.long q5), .second, .val (.long q6), .second, .val (.long k1), .second, .val (.long k2), .second, .val (.long k3), .second, .val (.long w1), .second, .unset, .unset, .unset, .unset, .unset, .unset, .unset, .unset, .unset, .unset, .unset, .unset] [(.int (2 : Int32)), (.long q5)])) _
          refine XS.lshr X3.here hx rfl (hb hby at_28) rfl ?_
          show Steps p.tables e below (T3.setTop (mkF m 29 #[.val (.long q1), .second, .val (.long q2), .second, .val (.long q3), .second, .val (.long q4), .second, .val (.long q5), .second, .val (.long q6), .second, .val (.long k1), .second, .val (.long k2), .second, .val (.long k3), .second, .val (.long w1), .second, .unset, .unset, .unset, .unset, .unset, .unset, .unset, .unset, .unset, .unset, .unset, .unset] [(.long (q5 >>> ((2 : Int32) &&& 0x3f).toInt64))])) _
          refine XS.lstore X3.here hx rfl (hb hby at_29) rfl (l' := #[.val (.long q1), .second, .val (.long q2), .second, .val (.long q3), .second, .val (.long q4), .second, .val (.long q5), .second, .val (.long q6), .second, .val (.long k1), .second, .val (.long k2), .second, .val (.long k3), .second, .val (.long w1), .second, .val (.long (q5 >>> ((2 : Int32) &&& 0x3f).toInt64)), .second, .unset, .unset, .unset, .unset, .unset, .unset, .unset, .unset, .unset, .unset]) rfl ?_
          show Steps p.tables e below (T3.setTop (mkF m 31 #[.val (.long q1), .second, .val (.long q2), .second, .val (.long q3), .second, .val (.long q4), .second, .val (.long q5), .second, .val (.long q6), .second, .val (.long k1), .second, .val (.long k2), .second, .val (.long k3), .second, .val (.long w1), .second, .val (.long (q5 >>> ((2 : Int32) &&& 0x3f).toInt64)), .second, .unset, .unset, .unset, .unset, .unset, .unset, .unset, .unset, .unset, .unset] [])) _
          rw [← hw2]
          show Steps p.tables e below (T3.setTop (mkF m 31 #[.val (.long q1), .second, .val (.long q2), .second, .val (.long q3), .second, .val (.long q4), .second, .val (.long q5), .second, .val (.long q6), .second, .val (.long k1), .second, .val (.long k2), .second, .val (.long k3), .second, .val (.long w1), .second, .val (.long w2), .second, .unset, .unset, .unset, .unset, .unset, .unset, .unset, .unset, .unset, .unset] [])) _
          refine XS.lload X3.here hx rfl (hb hby at_31) rfl ?_
          show Steps p.tables e below (T3.setTop (mkF m 33 #[.val (.long q1), .second, .val (.long q2), .second, .val (.long q3), .second, .val (.long q4), .second, .val (.long q5), .second, .val (.long q6), .second, .val (.long k1), .second, .val (.long k2), .second, .val (.long k3), .second, .val (.long w1), .second, .val (.long w2), .second, .unset, .unset, .unset, .unset, .unset, .unset, .unset, .unset, .unset, .unset] [(.long w1)])) _
          refine XS.lload X3.here hx rfl (hb hby at_33) rfl ?_
          show Steps p.tables e below (T3.setTop (mkF m 35 #[.val (.long q1), .second, .val (.long q2), .second, .val (.long q3), .second, .val (.long q4), .second, .val (.long q5), .second, .val (.long q6), .second, .val (.long k1), .second, .val (.long k2), .second, .val (.long k3), .second, .val (.long w1), .second, .val (.long w2), .second, .unset, .unset, .unset, .unset, .unset, .unset, .unset, .unset, .unset, .unset] [(.long w2), (.long w1)])) _
          refine XS.lxor X3.here hx rfl (hb hby at_35) rfl ?_
          show Steps p.tables e below (T3.setTop (mkF m 36 #[.val (.long q1), .second, .val (.long q2), .second, .val (.long q3), .second, .val (.long q4), .second, .val (.long q5), .second, .val (.long q6), .second, .val (.long k1), .second, .val (.long k2), .second, .val (.long k3), .second, .val (.long w1), .second, .val (.long w2), .second, .unset, .unset, .unset, .unset, .unset, .unset, .unset, .unset, .unset, .unset] [(.long (w1 ^^^ w2))])) _
          refine XS.lstore X3.here hx rfl (hb hby at_36) rfl (l' := #[.val (.long q1), .second, .val (.long q2), .second, .val (.long q3), .second, .val (.long q4), .second, .val (.long q5), .second, .val (.long q6), .second, .val (.long k1), .second, .val (.long k2), .second, .val (.long k3), .second, .val (.long w1), .second, .val (.long w2), .second, .val (.long (w1 ^^^ w2)), .second, .unset, .unset, .unset, .unset, .unset, .unset, .unset, .unset]) rfl ?_
          show Steps p.tables e below (T3.setTop (mkF m 38 #[.val (.long q1), .second, .val (.long q2), .second, .val (.long q3), .second, .val (.long q4), .second, .val (.long q5), .second, .val (.long q6), .second, .val (.long k1), .second, .val (.long k2), .second, .val (.long k3), .second, .val (.long w1), .second, .val (.long w2), .second, .val (.long (w1 ^^^ w2)), .second, .unset, .unset, .unset, .unset, .unset, .unset, .unset, .unset] [])) _
          rw [← hw3]
          show Steps p.tables e below (T3.setTop (mkF m 38 #[.val (.long q1), .second, .val (.long q2), .second, .val (.long q3), .second, .val (.long q4), .second, .val (.long q5), .second, .val (.long q6), .second, .val (.long k1), .second, .val (.long k2), .second, .val (.long k3), .second, .val (.long w1), .second, .val (.long w2), .second, .val (.long w3), .second, .unset, .unset, .unset, .unset, .unset, .unset, .unset, .unset] [])) _
          refine XS.lload X3.here hx rfl (hb hby at_38) rfl ?_
          show Steps p.tables e below (T3.setTop (mkF m 40 #[.val (.long q1), .second, .val (.long q2), .second, .val (.long q3), .second, .val (.long q4), .second, .val (.long q5), .second, .val (.long q6), .second, .val (.long k1), .second, .val (.long k2), .second, .val (.long k3), .second, .val (.long w1), .second, .val (.long w2), .second, .val (.long w3), .second, .unset, .unset, .unset, .unset, .unset, .unset, .unset, .unset] [(.long q6)])) _
          refine X3.ldc2Long hx hown (mvT hZ (hw _ (List.mem_of_getElem? (i := 5) rfl))) (g := (mkF m 40 #[.val (.long q1), .second, .val (.long q2), .second, .val (.long q3), .second, .val (.long q4), .second, .val (.long q5), .second, .val (.long q6), .second, .val (.long k1), .second, .val (.long k2), .second, .val (.long k3), .second, .val (.long w1), .second, .val (.long w2), .second, .val (.long w3), .second, .unset, .unset, .unset, .unset, .unset, .unset, .unset, .unset] [(.long q6)])) rfl (hb hby at_40) _ ?_
          show Steps p.tables e below (T3.setTop (mkF m 43 #[.val (.long q1), .second, .val (.long q2), .second, .val (.long q3), .second, .val (.long q4), .second, .val (.long q5), .second, .val (.long q6), .second, .val (.long k1), .second, .val (.long k2), .second, .val (.long k3), .second, .val (.long w1), .second, .val (.long w2), .second, .val (.long w3), .second, .unset, .unset, .unset, .unset, .unset, .unset, .unset, .unset] [(.long (3 : Int64)), (.long q6)])) _
          refine XS.land X3.here hx rfl (hb hby at_43) rfl ?_
          show Steps p.tables e below (T3.setTop (mkF m 44 #[.val (.long q1), .second, .val (.long q2), .second, .val (.long q3), .second, .val (.long q4), .second, .val (.long q5), .second, .val (.long q6), .second, .val (.long k1), .second, .val (.long k2), .second, .val (.long k3), .second, .val (.long w1), .second, .val (.long w2), .second, .val (.long w3), .second, .unset, .unset, .unset, .unset, .unset, .unset, .unset, .unset] [(.long (q6 &&& (3 : Int64)))])) _
          refine XS.l2i X3.here hx rfl (hb hby at_44) rfl ?_
          show Steps p.tables e below (T3.setTop (mkF m 45 #[.val (.long q1), .second, .val (.long q2), .second, .val (.long q3), .second, .val (.long q4), .second, .val (.long q5), .second, .val (.long q6), .second, .val (.long k1), .second, .val (.long k2), .second, .val (.long k3), .second, .val (.long w1), .second, .val (.long w2), .second, .val (.long w3), .second, .unset, .unset, .unset, .unset, .unset, .unset, .unset, .unset] [(.int ((q6 &&& (3 : Int64)).toInt32))])) _
          refine XS.istore X3.here hx rfl (hb hby at_45) rfl (l' := #[.val (.long q1), .second, .val (.long q2), .second, .val (.long q3), .second, .val (.long q4), .second, .val (.long q5), .second, .val (.long q6), .second, .val (.long k1), .second, .val (.long k2), .second, .val (.long k3), .second, .val (.long w1), .second, .val (.long w2), .second, .val (.long w3), .second, .val (.int ((q6 &&& (3 : Int64)).toInt32)), .unset, .unset, .unset, .unset, .unset, .unset, .unset]) rfl ?_
          show Steps p.tables e below (T3.setTop (mkF m 47 #[.val (.long q1), .second, .val (.long q2), .second, .val (.long q3), .second, .val (.long q4), .second, .val (.long q5), .second, .val (.long q6), .second, .val (.long k1), .second, .val (.long k2), .second, .val (.long k3), .second, .val (.long w1), .second, .val (.long w2), .second, .val (.long w3), .second, .val (.int ((q6 &&& (3 : Int64)).toInt32)), .unset, .unset, .unset, .unset, .unset, .unset, .unset] [])) _
          rw [← hnn]
          show Steps p.tables e below (T3.setTop (mkF m 47 #[.val (.long q1), .second, .val (.long q2), .second, .val (.long q3), .second, .val (.long q4), .second, .val (.long q5), .second, .val (.long q6), .second, .val (.long k1), .second, .val (.long k2), .second, .val (.long k3), .second, .val (.long w1), .second, .val (.long w2), .second, .val (.long w3), .second, .val (.int nn), .unset, .unset, .unset, .unset, .unset, .unset, .unset] [])) _
          refine XS.lload X3.here hx rfl (hb hby at_47) rfl ?_
          show Steps p.tables e below (T3.setTop (mkF m 49 #[.val (.long q1), .second, .val (.long q2), .second, .val (.long q3), .second, .val (.long q4), .second, .val (.long q5), .second, .val (.long q6), .second, .val (.long k1), .second, .val (.long k2), .second, .val (.long k3), .second, .val (.long w1), .second, .val (.long w2), .second, .val (.long w3), .second, .val (.int nn), .unset, .unset, .unset, .unset, .unset, .unset, .unset] [(.long q6)])) _
          refine XS.iconst X3.here hx rfl (hb hby at_49) ?_
          show Steps p.tables e below (T3.setTop (mkF m 50 #[.val (.long q1), .second, .val (.long q2), .second, .val (.long q3), .second, .val (.long q4), .second, .val (.long q5), .second, .val (.long q6), .second, .val (.long k1), .second, .val (.long k2), .second, .val (.long k3), .second, .val (.long w1), .second, .val (.long w2), .second, .val (.long w3), .second, .val (.int nn), .unset, .unset, .unset, .unset, .unset, .unset, .unset] [(.int (2 : Int32)), (.long q6)])) _
          refine XS.lshr X3.here hx rfl (hb hby at_50) rfl ?_
          show Steps p.tables e below (T3.setTop (mkF m 51 #[.val (.long q1), .second, .val (.long q2), .second, .val (.long q3), .second, .val (.long q4), .second, .val (.long q5), .second, .val (.long q6), .second, .val (.long k1), .second, .val (.long k2), .second, .val (.long k3), .second, .val (.long w1), .second, .val (.long w2), .second, .val (.long w3), .second, .val (.int nn), .unset, .unset, .unset, .unset, .unset, .unset, .unset] [(.long (q6 >>> ((2 : Int32) &&& 0x3f).toInt64))])) _
          refine XS.lstore X3.here hx rfl (hb hby at_51) rfl (l' := #[.val (.long q1), .second, .val (.long q2), .second, .val (.long q3), .second, .val (.long q4), .second, .val (.long q5), .second, .val (.long q6), .second, .val (.long k1), .second, .val (.long k2), .second, .val (.long k3), .second, .val (.long w1), .second, .val (.long w2), .second, .val (.long w3), .second, .val (.int nn), .val (.long (q6 >>> ((2 : Int32) &&& 0x3f).toInt64)), .second, .unset, .unset, .unset, .unset, .unset]) rfl ?_
          show Steps p.tables e below (T3.setTop (mkF m 53 #[.val (.long q1), .second, .val (.long q2), .second, .val (.long q3), .second, .val (.long q4), .second, .val (.long q5), .second, .val (.long q6), .second, .val (.long k1), .second, .val (.long k2), .second, .val (.long k3), .second, .val (.long w1), .second, .val (.long w2), .second, .val (.long w3), .second, .val (.int nn), .val (.long (q6 >>> ((2 : Int32) &&& 0x3f).toInt64)), .second, .unset, .unset, .unset, .unset, .unset] [])) _
          rw [← hqz]
          show Steps p.tables e below (T3.setTop (mkF m 53 #[.val (.long q1), .second, .val (.long q2), .second, .val (.long q3), .second, .val (.long q4), .second, .val (.long q5), .second, .val (.long q6), .second, .val (.long k1), .second, .val (.long k2), .second, .val (.long k3), .second, .val (.long w1), .second, .val (.long w2), .second, .val (.long w3), .second, .val (.int nn), .val (.long qz), .second, .unset, .unset, .unset, .unset, .unset] [])) _
          refine st4 _ ?_
          show Steps p.tables e below (T4.setTop (mkF m 56 #[.val (.long q1), .second, .val (.long q2), .second, .val (.long q3), .second, .val (.long q4), .second, .val (.long q5), .second, .val (.long q6), .second, .val (.long k1), .second, .val (.long k2), .second, .val (.long k3), .second, .val (.long w1), .second, .val (.long w2), .second, .val (.long w3), .second, .val (.int nn), .val (.long qz), .second, .unset, .unset, .unset, .unset, .unset] [(.ref b4o)])) _
          refine XS.dup X4.here hx rfl (hb hby at_56) rfl rfl ?_
          show Steps p.tables e below (T4.setTop (mkF m 57 #[.val (.long q1), .second, .val (.long q2), .second, .val (.long q3), .second, .val (.long q4), .second, .val (.long q5), .second, .val (.long q6), .second, .val (.long k1), .second, .val (.long k2), .second, .val (.long k3), .second, .val (.long w1), .second, .val (.long w2), .second, .val (.long w3), .second, .val (.int nn), .val (.long qz), .second, .unset, .unset, .unset, .unset, .unset] [(.ref b4o), (.ref b4o)])) _
          refine st5.trans ?_
          show Steps p.tables e below (T5.setTop (mkF m 60 #[.val (.long q1), .second, .val (.long q2), .second, .val (.long q3), .second, .val (.long q4), .second, .val (.long q5), .second, .val (.long q6), .second, .val (.long k1), .second, .val (.long k2), .second, .val (.long k3), .second, .val (.long w1), .second, .val (.long w2), .second, .val (.long w3), .second, .val (.int nn), .val (.long qz), .second, .unset, .unset, .unset, .unset, .unset] [(.ref b4o)])) _
          refine XS.astore X5.here hx rfl (hb hby at_60) rfl rfl (l' := #[.val (.long q1), .second, .val (.long q2), .second, .val (.long q3), .second, .val (.long q4), .second, .val (.long q5), .second, .val (.long q6), .second, .val (.long k1), .second, .val (.long k2), .second, .val (.long k3), .second, .val (.long w1), .second, .val (.long w2), .second, .val (.long w3), .second, .val (.int nn), .val (.long qz), .second, .val (.ref b4o), .unset, .unset, .unset, .unset]) rfl ?_
          show Steps p.tables e below (T5.setTop (mkF m 62 #[.val (.long q1), .second, .val (.long q2), .second, .val (.long q3), .second, .val (.long q4), .second, .val (.long q5), .second, .val (.long q6), .second, .val (.long k1), .second, .val (.long k2), .second, .val (.long k3), .second, .val (.long w1), .second, .val (.long w2), .second, .val (.long w3), .second, .val (.int nn), .val (.long qz), .second, .val (.ref b4o), .unset, .unset, .unset, .unset] [])) _
          refine XS.iload X5.here hx rfl (hb hby at_62) rfl ?_
          show Steps p.tables e below (T5.setTop (mkF m 64 #[.val (.long q1), .second, .val (.long q2), .second, .val (.long q3), .second, .val (.long q4), .second, .val (.long q5), .second, .val (.long q6), .second, .val (.long k1), .second, .val (.long k2), .second, .val (.long k3), .second, .val (.long w1), .second, .val (.long w2), .second, .val (.long w3), .second, .val (.int nn), .val (.long qz), .second, .val (.ref b4o), .unset, .unset, .unset, .unset] [(.int nn)])) _
          refine XS.iconst X5.here hx rfl (hb hby at_64) ?_
          show Steps p.tables e below (T5.setTop (mkF m 65 #[.val (.long q1), .second, .val (.long q2), .second, .val (.long q3), .second, .val (.long q4), .second, .val (.long q5), .second, .val (.long q6), .second, .val (.long k1), .second, .val (.long k2), .second, .val (.long k3), .second, .val (.long w1), .second, .val (.long w2), .second, .val (.long w3), .second, .val (.int nn), .val (.long qz), .second, .val (.ref b4o), .unset, .unset, .unset, .unset] [(.int (1 : Int32)), (.int nn)])) _
          refine XS.icmpNo X5.here hx rfl (hb hby at_65) rfl (flt hc65).1 ?_
          show Steps p.tables e below (T5.setTop (mkF m 68 #[.val (.long q1), .second, .val (.long q2), .second, .val (.long q3), .second, .val (.long q4), .second, .val (.long q5), .second, .val (.long q6), .second, .val (.long k1), .second, .val (.long k2), .second, .val (.long k3), .second, .val (.long w1), .second, .val (.long w2), .second, .val (.long w3), .second, .val (.int nn), .val (.long qz), .second, .val (.ref b4o), .unset, .unset, .unset, .unset] [])) _
          refine XS.aload X5.here hx rfl (hb hby at_68) rfl rfl ?_
          show Steps p.tables e below (T5.setTop (mkF m 70 #[.val (.long q1), .second, .val (.long q2), .second, .val (.long q3), .second, .val (.long q4), .second, .val (.long q5), .second, .val (.long q6), .second, .val (.long k1), .second, .val (.long k2), .second, .val (.long k3), .second, .val (.long w1), .second, .val (.long w2), .second, .val (.long w3), .second, .val (.int nn), .val (.long qz), .second, .val (.ref b4o), .unset, .unset, .unset, .unset] [(.ref b4o)])) _
          refine XS.lload X5.here hx rfl (hb hby at_70) rfl ?_
          show Steps p.tables e below (T5.setTop (mkF m 72 #[.val (.long q1), .second, .val (.long q2), .second, .val (.long q3), .second, .val (.long q4), .second, .val (.long q5), .second, .val (.long q6), .second, .val (.long k1), .second, .val (.long k2), .second, .val (.long k3), .second, .val (.long w1), .second, .val (.long w2), .second, .val (.long w3), .second, .val (.int nn), .val (.long qz), .second, .val (.ref b4o), .unset, .unset, .unset, .unset] [(.long k1), (.ref b4o)])) _
          refine XS.lload X5.here hx rfl (hb hby at_72) rfl ?_
          show Steps p.tables e below (T5.setTop (mkF m 74 #[.val (.long q1), .second, .val (.long q2), .second, .val (.long q3), .second, .val (.long q4), .second, .val (.long q5), .second, .val (.long q6), .second, .val (.long k1), .second, .val (.long k2), .second, .val (.long k3), .second, .val (.long w1), .second, .val (.long w2), .second, .val (.long w3), .second, .val (.int nn), .val (.long qz), .second, .val (.ref b4o), .unset, .unset, .unset, .unset] [(.long w1), (.long k1), (.ref b4o)])) _
          refine st7.trans ?_
          show Steps p.tables e below (T7.setTop (mkF m 77 #[.val (.long q1), .second, .val (.long q2), .second, .val (.long q3), .second, .val (.long q4), .second, .val (.long q5), .second, .val (.long q6), .second, .val (.long k1), .second, .val (.long k2), .second, .val (.long k3), .second, .val (.long w1), .second, .val (.long w2), .second, .val (.long w3), .second, .val (.int nn), .val (.long qz), .second, .val (.ref b4o), .unset, .unset, .unset, .unset] [])) _
          refine XS.iload X7.here hx rfl (hb hby at_77) rfl ?_
          show Steps p.tables e below (T7.setTop (mkF m 79 #[.val (.long q1), .second, .val (.long q2), .second, .val (.long q3), .second, .val (.long q4), .second, .val (.long q5), .second, .val (.long q6), .second, .val (.long k1), .second, .val (.long k2), .second, .val (.long k3), .second, .val (.long w1), .second, .val (.long w2), .second, .val (.long w3), .second, .val (.int nn), .val (.long qz), .second, .val (.ref b4o), .unset, .unset, .unset, .unset] [(.int nn)])) _
          refine XS.iconst X7.here hx rfl (hb hby at_79) ?_
          show Steps p.tables e below (T7.setTop (mkF m 80 #[.val (.long q1), .second, .val (.long q2), .second, .val (.long q3), .second, .val (.long q4), .second, .val (.long q5), .second, .val (.long q6), .second, .val (.long k1), .second, .val (.long k2), .second, .val (.long k3), .second, .val (.long w1), .second, .val (.long w2), .second, .val (.long w3), .second, .val (.int nn), .val (.long qz), .second, .val (.ref b4o), .unset, .unset, .unset, .unset] [(.int (2 : Int32)), (.int nn)])) _
          refine XS.icmpNo X7.here hx rfl (hb hby at_80) rfl (flt hc80).1 ?_
          show Steps p.tables e below (T7.setTop (mkF m 83 #[.val (.long q1), .second, .val (.long q2), .second, .val (.long q3), .second, .val (.long q4), .second, .val (.long q5), .second, .val (.long q6), .second, .val (.long k1), .second, .val (.long k2), .second, .val (.long k3), .second, .val (.long w1), .second, .val (.long w2), .second, .val (.long w3), .second, .val (.int nn), .val (.long qz), .second, .val (.ref b4o), .unset, .unset, .unset, .unset] [])) _
          refine XS.aload X7.here hx rfl (hb hby at_83) rfl rfl ?_
          show Steps p.tables e below (T7.setTop (mkF m 85 #[.val (.long q1), .second, .val (.long q2), .second, .val (.long q3), .second, .val (.long q4), .second, .val (.long q5), .second, .val (.long q6), .second, .val (.long k1), .second, .val (.long k2), .second, .val (.long k3), .second, .val (.long w1), .second, .val (.long w2), .second, .val (.long w3), .second, .val (.int nn), .val (.long qz), .second, .val (.ref b4o), .unset, .unset, .unset, .unset] [(.ref b4o)])) _
          refine XS.lload X7.here hx rfl (hb hby at_85) rfl ?_
          show Steps p.tables e below (T7.setTop (mkF m 87 #[.val (.long q1), .second, .val (.long q2), .second, .val (.long q3), .second, .val (.long q4), .second, .val (.long q5), .second, .val (.long q6), .second, .val (.long k1), .second, .val (.long k2), .second, .val (.long k3), .second, .val (.long w1), .second, .val (.long w2), .second, .val (.long w3), .second, .val (.int nn), .val (.long qz), .second, .val (.ref b4o), .unset, .unset, .unset, .unset] [(.long k2), (.ref b4o)])) _
          refine XS.lload X7.here hx rfl (hb hby at_87) rfl ?_
          show Steps p.tables e below (T7.setTop (mkF m 89 #[.val (.long q1), .second, .val (.long q2), .second, .val (.long q3), .second, .val (.long q4), .second, .val (.long q5), .second, .val (.long q6), .second, .val (.long k1), .second, .val (.long k2), .second, .val (.long k3), .second, .val (.long w1), .second, .val (.long w2), .second, .val (.long w3), .second, .val (.int nn), .val (.long qz), .second, .val (.ref b4o), .unset, .unset, .unset, .unset] [(.long w2), (.long k2), (.ref b4o)])) _
          refine st10.trans ?_
          show Steps p.tables e below (T10.setTop (mkF m 92 #[.val (.long q1), .second, .val (.long q2), .second, .val (.long q3), .second, .val (.long q4), .second, .val (.long q5), .second, .val (.long q6), .second, .val (.long k1), .second, .val (.long k2), .second, .val (.long k3), .second, .val (.long w1), .second, .val (.long w2), .second, .val (.long w3), .second, .val (.int nn), .val (.long qz), .second, .val (.ref b4o), .unset, .unset, .unset, .unset] [])) _
          refine XS.iload X10.here hx rfl (hb hby at_92) rfl ?_
          show Steps p.tables e below (T10.setTop (mkF m 94 #[.val (.long q1), .second, .val (.long q2), .second, .val (.long q3), .second, .val (.long q4), .second, .val (.long q5), .second, .val (.long q6), .second, .val (.long k1), .second, .val (.long k2), .second, .val (.long k3), .second, .val (.long w1), .second, .val (.long w2), .second, .val (.long w3), .second, .val (.int nn), .val (.long qz), .second, .val (.ref b4o), .unset, .unset, .unset, .unset] [(.int nn)])) _
          refine XS.iconst X10.here hx rfl (hb hby at_94) ?_
          show Steps p.tables e below (T10.setTop (mkF m 95 #[.val (.long q1), .second, .val (.long q2), .second, .val (.long q3), .second, .val (.long q4), .second, .val (.long q5), .second, .val (.long q6), .second, .val (.long k1), .second, .val (.long k2), .second, .val (.long k3), .second, .val (.long w1), .second, .val (.long w2), .second, .val (.long w3), .second, .val (.int nn), .val (.long qz), .second, .val (.ref b4o), .unset, .unset, .unset, .unset] [(.int (3 : Int32)), (.int nn)])) _
          refine XS.icmpYes X10.here hx rfl (pc0 := 95) (pc' := 107) rfl (hb hby at_95) rfl (tlt hc95).1 (by decide) (by decide) ?_
          show Steps p.tables e below (T10.setTop (mkF m 107 #[.val (.long q1), .second, .val (.long q2), .second, .val (.long q3), .second, .val (.long q4), .second, .val (.long q5), .second, .val (.long q6), .second, .val (.long k1), .second, .val (.long k2), .second, .val (.long k3), .second, .val (.long w1), .second, .val (.long w2), .second, .val (.long w3), .second, .val (.int nn), .val (.long qz), .second, .val (.ref b4o), .unset, .unset, .unset, .unset] [])) _
          refine st12 _ ?_
          show Steps p.tables e below (T12.setTop (mkF m 280 #[.val (.long q1), .second, .val (.long q2), .second, .val (.long q3), .second, .val (.long q4), .second, .val (.long q5), .second, .val (.long q6), .second, .val (.long k1), .second, .val (.long k2), .second, .val (.long k3), .second, .val (.long w1), .second, .val (.long w2), .second, .val (.long w3), .second, .val (.int nn), .val (.long qz), .second, .val (.ref b4o), .val (.int (1 : Int32)), .val (.int (1 : Int32)), .val (.int (1 : Int32)), .val (.int (1 : Int32))] [(.int (1 : Int32))])) _
          exact retN X12 hx (t := .boolean) Bd.returns (by simp) (hb hby at_280) hr
        · show Qrm0 Z q1 q2 q3 q4 q5 q6 h0 n0 _ T12.heap _
          exact ⟨rfl, N12⟩
      · obtain ⟨cq13, kq13, q13a, q13b, q13c⟩ := isOf hZ rfl tE10
        obtain ⟨_, _, ⟨T13, L13, k13, n13⟩, -, X13, ⟨Lc13, hQ13, l13, y13, z13⟩, st13⟩ := X10.virtualBack hx (y := (⟨"com/example/pricewright/pricewright/core/LongSumTable", "add", "(JJ)V"⟩ : MethodName)) (z := (⟨"com/example/pricewright/pricewright/core/LongSumTable", "add", "(JJ)V"⟩ : MethodName)) hown (mvT hZ (hw _ (List.mem_of_getElem? (i := 33) rfl))) (mvT hZ (hw _ (List.mem_of_getElem? (i := 34) rfl))) (notFace_of_selects (args := #[]) (mvT hZ (hw _ (List.mem_of_getElem? (i := 36) rfl)))) (mvT hZ (hw _ (List.mem_of_getElem? (i := 36) rfl))) (mvT hZ (hw _ (List.mem_of_getElem? (i := 35) rfl))) (by decide) (backOf (W := 0) (rmA l Z a0 hw [] b4o k3 w3 ta10 tk10 ta10r D10 M10 (sz10) so10 T10.heap n0 Z10 tE10 tS10 tH10 tZ10 tQ10 tA10 tl10 ne11 b4 tg10 tr10 hz10 hk3 (fun _ => own_ovf (by have := hB10 k3; have := hb3; omega) (by have := hB10 k3; have := hb3; omega))) hZ (hw _ (List.mem_of_getElem? (i := 37) rfl)) (hw _ (List.mem_of_getElem? (i := 8) rfl)) (by decide) (by decide)) q13a q13c (g := (mkF m 104 #[.val (.long q1), .second, .val (.long q2), .second, .val (.long q3), .second, .val (.long q4), .second, .val (.long q5), .second, .val (.long q6), .second, .val (.long k1), .second, .val (.long k2), .second, .val (.long k3), .second, .val (.long w1), .second, .val (.long w2), .second, .val (.long w3), .second, .val (.int nn), .val (.long qz), .second, .val (.ref b4o), .unset, .unset, .unset, .unset] [(.long w3), (.long k3), (.ref b4o)])) rfl (by rw [hml]; rfl) (Steps.refl _) (argsL := [(.long k3), (.long w3)]) (rest := []) (lenOf pd_3 rfl) rfl (by show 2 * 0 + _ ≤ _; exact Nat.le_of_eq rfl) (hb hby at_104) (fun _ _ => ⟨rfl, rfl, (by decide : 6 + 2 ≤ _), (by decide : 52 + 20 ≤ _)⟩)
        dsimp only [Pt.U, Pt.locs, Pt.cells, Pt.slots] at X13 l13 y13 z13 st13 hQ13
        subst l13 y13 z13
        obtain ⟨rfl, N13q, Z13, nn13, sz13, so13, D13, M13, hD13, hM13, ⟨ta13, tk13, ta13r, ts13, hn13, tg13, tE13, tS13, tH13, tZ13, tQ13, tA13, tl13, tr13⟩, hc13, hl13, hy13, ho13⟩ := hQ13
        have N13 := Fr.app N10 N13q
        have tf13 : ∃ j, j < nn13 ∧ own_K ta13r j = own_FREE := own_cnt_free (by rw [tr13.2.2.2]; omega)
        have ne14 : b4o ≠ ta13 := ne_arrV tE13 (hw _ (List.mem_of_getElem? (i := 7) rfl)) tA13
        have hB13 : ∀ x, -6917529027641081856 ≤ (M13 x).toInt ∧ (M13 x).toInt ≤ 6917529027641081856 := own_bnd (B := 4611686018427387904) hM13 hB10 hb3.1 hb3.2 (by decide) (by decide) (by decide)
        have HX : ∀ x, own_e1 (own_e1 (own_e1 (0 : Int64) nn (1 : Int32) k1 x w1) nn (2 : Int32) k2 x w2) nn (3 : Int32) k3 x w3 = M13 x := fun x => (own_eY hc95 hM13 (own_eY hc80 hM10 (own_eY hc65 hM7 rfl)))
        have Xm15 := X13.more (cells' := 8) (slots' := 72) (by decide) (by decide)
        obtain ⟨T15, L15, X15, N15, st15⟩ := own_tail (n := nn13) (arr := ta13r) (sh := ts13) hx hZ hw hby hml hown Xm15 rfl N13 Z13 hn13 tE13 tS13 tH13 tA13 tf13 tr13 hk1 hk2 hk3 hk4 HX
        obtain ⟨fs, hr, hrun, hended, hW, hsame⟩ := X15.leave (v := some (.int (1 : Int32))) (fun h => by rw [Bd.returns] at h; cases h)
        refine ⟨_, _, pre0 _ ?_, hrun, hended, _, _, rfl, ?_, ⟨_, rfl⟩, hW, hsame.mono (by decide) (by decide)⟩
        · show Steps p.tables e below (s₁.setTop (mkF m 0 #[.val (.long q1), .second, .val (.long q2), .second, .val (.long q3), .second, .val (.long q4), .second, .val (.long q5), .second, .val (.long q6), .second, .unset, .unset, .unset, .unset, .unset, .unset, .unset, .unset, .unset, .unset, .unset, .unset, .unset, .unset, .unset, .unset, .unset, .unset, .unset, .unset] [])) _
          refine XS.lloadN X0.here hx rfl (hb hby at_0) rfl ?_
          show Steps p.tables e below (s₁.setTop (mkF m 1 #[.val (.long q1), .second, .val (.long q2), .second, .val (.long q3), .second, .val (.long q4), .second, .val (.long q5), .second, .val (.long q6), .second, .unset, .unset, .unset, .unset, .unset, .unset, .unset, .unset, .unset, .unset, .unset, .unset, .unset, .unset, .unset, .unset, .unset, .unset, .unset, .unset] [(.long q1)])) _
          refine st1 _ ?_
          show Steps p.tables e below (T1.setTop (mkF m 4 #[.val (.long q1), .second, .val (.long q2), .second, .val (.long q3), .second, .val (.long q4), .second, .val (.long q5), .second, .val (.long q6), .second, .unset, .unset, .unset, .unset, .unset, .unset, .unset, .unset, .unset, .unset, .unset, .unset, .unset, .unset, .unset, .unset, .unset, .unset, .unset, .unset] [(.long r1)])) _
          refine XS.lstore X1.here hx rfl (hb hby at_4) rfl (l' := #[.val (.long q1), .second, .val (.long q2), .second, .val (.long q3), .second, .val (.long q4), .second, .val (.long q5), .second, .val (.long q6), .second, .val (.long r1), .second, .unset, .unset, .unset, .unset, .unset, .unset, .unset, .unset, .unset, .unset, .unset, .unset, .unset, .unset, .unset, .unset, .unset, .unset]) rfl ?_
          show Steps p.tables e below (T1.setTop (mkF m 6 #[.val (.long q1), .second, .val (.long q2), .second, .val (.long q3), .second, .val (.long q4), .second, .val (.long q5), .second, .val (.long q6), .second, .val (.long r1), .second, .unset, .unset, .unset, .unset, .unset, .unset, .unset, .unset, .unset, .unset, .unset, .unset, .unset, .unset, .unset, .unset, .unset, .unset] [])) _
          rw [← hek1]
          show Steps p.tables e below (T1.setTop (mkF m 6 #[.val (.long q1), .second, .val (.long q2), .second, .val (.long q3), .second, .val (.long q4), .second, .val (.long q5), .second, .val (.long q6), .second, .val (.long k1), .second, .unset, .unset, .unset, .unset, .unset, .unset, .unset, .unset, .unset, .unset, .unset, .unset, .unset, .unset, .unset, .unset, .unset, .unset] [])) _
          refine XS.lloadN X1.here hx rfl (hb hby at_6) rfl ?_
          show Steps p.tables e below (T1.setTop (mkF m 7 #[.val (.long q1), .second, .val (.long q2), .second, .val (.long q3), .second, .val (.long q4), .second, .val (.long q5), .second, .val (.long q6), .second, .val (.long k1), .second, .unset, .unset, .unset, .unset, .unset, .unset, .unset, .unset, .unset, .unset, .unset, .unset, .unset, .unset, .unset, .unset, .unset, .unset] [(.long q2)])) _
          refine st2 _ ?_
          show Steps p.tables e below (T2.setTop (mkF m 10 #[.val (.long q1), .second, .val (.long q2), .second, .val (.long q3), .second, .val (.long q4), .second, .val (.long q5), .second, .val (.long q6), .second, .val (.long k1), .second, .unset, .unset, .unset, .unset, .unset, .unset, .unset, .unset, .unset, .unset, .unset, .unset, .unset, .unset, .unset, .unset, .unset, .unset] [(.long r2)])) _
          refine XS.lstore X2.here hx rfl (hb hby at_10) rfl (l' := #[.val (.long q1), .second, .val (.long q2), .second, .val (.long q3), .second, .val (.long q4), .second, .val (.long q5), .second, .val (.long q6), .second, .val (.long k1), .second, .val (.long r2), .second, .unset, .unset, .unset, .unset, .unset, .unset, .unset, .unset, .unset, .unset, .unset, .unset, .unset, .unset, .unset, .unset]) rfl ?_
          show Steps p.tables e below (T2.setTop (mkF m 12 #[.val (.long q1), .second, .val (.long q2), .second, .val (.long q3), .second, .val (.long q4), .second, .val (.long q5), .second, .val (.long q6), .second, .val (.long k1), .second, .val (.long r2), .second, .unset, .unset, .unset, .unset, .unset, .unset, .unset, .unset, .unset, .unset, .unset, .unset, .unset, .unset, .unset, .unset] [])) _
          rw [← hek2]
          show Steps p.tables e below (T2.setTop (mkF m 12 #[.val (.long q1), .second, .val (.long q2), .second, .val (.long q3), .second, .val (.long q4), .second, .val (.long q5), .second, .val (.long q6), .second, .val (.long k1), .second, .val (.long k2), .second, .unset, .unset, .unset, .unset, .unset, .unset, .unset, .unset, .unset, .unset, .unset, .unset, .unset, .unset, .unset, .unset] [])) _
          refine XS.lload X2.here hx rfl (hb hby at_12) rfl ?_
          show Steps p.tables e below (T2.setTop (mkF m 14 #[.val (.long q1), .second, .val (.long q2), .second, .val (.long q3), .second, .val (.long q4), .second, .val (.long q5), .second, .val (.long q6), .second, .val (.long k1), .second, .val (.long k2), .second, .unset, .unset, .unset, .unset, .unset, .unset, .unset, .unset, .unset, .unset, .unset, .unset, .unset, .unset, .unset, .unset] [(.long q3)])) _
          refine st3 _ ?_
          show Steps p.tables e below (T3.setTop (mkF m 17 #[.val (.long q1), .second, .val (.long q2), .second, .val (.long q3), .second, .val (.long q4), .second, .val (.long q5), .second, .val (.long q6), .second, .val (.long k1), .second, .val (.long k2), .second, .unset, .unset, .unset, .unset, .unset, .unset, .unset, .unset, .unset, .unset, .unset, .unset, .unset, .unset, .unset, .unset] [(.long r3)])) _
          refine XS.lstore X3.here hx rfl (hb hby at_17) rfl (l' := #[.val (.long q1), .second, .val (.long q2), .second, .val (.long q3), .second, .val (.long q4), .second, .val (.long q5), .second, .val (.long q6), .second, .val (.long k1), .second, .val (.long k2), .second, .val (.long r3), .second, .unset, .unset, .unset, .unset, .unset, .unset, .unset, .unset, .unset, .unset, .unset, .unset, .unset, .unset]) rfl ?_
          show Steps p.tables e below (T3.setTop (mkF m 19 #[.val (.long q1), .second, .val (.long q2), .second, .val (.long q3), .second, .val (.long q4), .second, .val (.long q5), .second, .val (.long q6), .second, .val (.long k1), .second, .val (.long k2), .second, .val (.long r3), .second, .unset, .unset, .unset, .unset, .unset, .unset, .unset, .unset, .unset, .unset, .unset, .unset, .unset, .unset] [])) _
          rw [← hek3]
          show Steps p.tables e below (T3.setTop (mkF m 19 #[.val (.long q1), .second, .val (.long q2), .second, .val (.long q3), .second, .val (.long q4), .second, .val (.long q5), .second, .val (.long q6), .second, .val (.long k1), .second, .val (.long k2), .second, .val (.long k3), .second, .unset, .unset, .unset, .unset, .unset, .unset, .unset, .unset, .unset, .unset, .unset, .unset, .unset, .unset] [])) _
          refine XS.lload X3.here hx rfl (hb hby at_19) rfl ?_
          show Steps p.tables e below (T3.setTop (mkF m 21 #[.val (.long q1), .second, .val (.long q2), .second, .val (.long q3), .second, .val (.long q4), .second, .val (.long q5), .second, .val (.long q6), .second, .val (.long k1), .second, .val (.long k2), .second, .val (.long k3), .second, .unset, .unset, .unset, .unset, .unset, .unset, .unset, .unset, .unset, .unset, .unset, .unset, .unset, .unset] [(.long q4)])) _
          refine XS.iconst X3.here hx rfl (hb hby at_21) ?_
          show Steps p.tables e below (T3.setTop (mkF m 22 #[.val (.long q1), .second, .val (.long q2), .second, .val (.long q3), .second, .val (.long q4), .second, .val (.long q5), .second, .val (.long q6), .second, .val (.long k1), .second, .val (.long k2), .second, .val (.long k3), .second, .unset, .unset, .unset, .unset, .unset, .unset, .unset, .unset, .unset, .unset, .unset, .unset, .unset, .unset] [(.int (2 : Int32)), (.long q4)])) _
          refine XS.lshr X3.here hx rfl (hb hby at_22) rfl ?_
          show Steps p.tables e below (T3.setTop (mkF m 23 #[.val (.long q1), .second, .val (.long q2), .second, .val (.long q3), .second, .val (.long q4), .second, .val (.long q5), .second, .val (.long q6), .second, .val (.long k1), .second, .val (.long k2), .second, .val (.long k3), .second, .unset, .unset, .unset, .unset, .unset, .unset, .unset, .unset, .unset, .unset, .unset, .unset, .unset, .unset] [(.long (q4 >>> ((2 : Int32) &&& 0x3f).toInt64))])) _
          refine XS.lstore X3.here hx rfl (hb hby at_23) rfl (l' := #[.val (.long q1), .second, .val (.long q2), .second, .val (.long q3), .second, .val (.long q4), .second, .val (.long q5), .second, .val (.long q6), .second, .val (.long k1), .second, .val (.long k2), .second, .val (.long k3), .second, .val (.long (q4 >>> ((2 : Int32) &&& 0x3f).toInt64)), .second, .unset, .unset, .unset, .unset, .unset, .unset, .unset, .unset, .unset, .unset, .unset, .unset]) rfl ?_
          show Steps p.tables e below (T3.setTop (mkF m 25 #[.val (.long q1), .second, .val (.long q2), .second, .val (.long q3), .second, .val (.long q4), .second, .val (.long q5), .second, .val (.long q6), .second, .val (.long k1), .second, .val (.long k2), .second, .val (.long k3), .second, .val (.long (q4 >>> ((2 : Int32) &&& 0x3f).toInt64)), .second, .unset, .unset, .unset, .unset, .unset, .unset, .unset, .unset, .unset, .unset, .unset, .unset] [])) _
          rw [← hw1]
          show Steps p.tables e below (T3.setTop (mkF m 25 #[.val (.long q1), .second, .val (.long q2), .second, .val (.long q3), .second, .val (.long q4), .second, .val (.long q5), .second, .val (.long q6), .second, .val (.long k1), .second, .val (.long k2), .second, .val (.long k3), .second, .val (.long w1), .second, .unset, .unset, .unset, .unset, .unset, .unset, .unset, .unset, .unset, .unset, .unset, .unset] [])) _
          refine XS.lload X3.here hx rfl (hb hby at_25) rfl ?_
          show Steps p.tables e below (T3.setTop (mkF m 27 #[.val (.long q1), .second, .val (.long q2), .second, .val (.long q3), .second, .val (.long q4), .second, .val (.long q5), .second, .val (.long q6), .second, .val (.long k1), .second, .val (.long k2), .second, .val (.long k3), .second, .val (.long w1), .second, .unset, .unset, .unset, .unset, .unset, .unset, .unset, .unset, .unset, .unset, .unset, .unset] [(.long q5)])) _
          refine XS.iconst X3.here hx rfl (hb hby at_27) ?_
          show Steps p.tables e below (T3.setTop (mkF m 28 #[.val (.long q1), .second, .val (.long q2), .second, .val (.long q3), .second, .val (.long q4), .second, .val (.long q5), .second, .val (.long q6), .second, .val (.long k1), .second, .val (.long k2), .second, .val (.long k3), .second, .val (.long w1), .second, .unset, .unset, .unset, .unset, .unset, .unset, .unset, .unset, .unset, .unset, .unset, .unset] [(.int (2 : Int32)), (.long q5)])) _
          refine XS.lshr X3.here hx rfl (hb hby at_28) rfl ?_
          show Steps p.tables e below (T3.setTop (mkF m 29 #[.val (.long q1), .second, .val (.long q2), .second, .val (.long q3), .second, .val (.long q4), .second, .val (.long q5), .second, .val (.long q6), .second, .val (.long k1), .second, .val (.long k2), .second, .val (.long k3), .second, .val (.long w1), .second, .unset, .unset, .unset, .unset, .unset, .unset, .unset, .unset, .unset, .unset, .unset, .unset] [(.long (q5 >>> ((2 : Int32) &&& 0x3f).toInt64))])) _
          refine XS.lstore X3.here hx rfl (hb hby at_29) rfl (l' := #[.val (.long q1), .second, .val (.long q2), .second, .val (.long q3), .second, .val (.long q4), .second, .val (.long q5), .second, .val (.long q6), .second, .val (.long k1), .second, .val (.long k2), .second, .val (.long k3), .second, .val (.long w1), .second, .val (.long (q5 >>> ((2 : Int32) &&& 0x3f).toInt64)), .second, .unset, .unset, .unset, .unset, .unset, .unset, .unset, .unset, .unset, .unset]) rfl ?_
          show Steps p.tables e below (T3.setTop (mkF m 31 #[.val (.long q1), .second, .val (.long q2), .second, .val (.long q3), .second, .val (.long q4), .second, .val (.long q5), .second, .val (.long q6), .second, .val (.long k1), .second, .val (.long k2), .second, .val (.long k3), .second, .val (.long w1), .second, .val (.long (q5 >>> ((2 : Int32) &&& 0x3f).toInt64)), .second, .unset, .unset, .unset, .unset, .unset, .unset, .unset, .unset, .unset, .unset] [])) _
          rw [← hw2]
          show Steps p.tables e below (T3.setTop (mkF m 31 #[.val (.long q1), .second, .val (.long q2), .second, .val (.long q3), .second, .val (.long q4), .second, .val (.long q5), .second, .val (.long q6), .second, .val (.long k1), .second, .val (.long k2), .second, .val (.long k3), .second, .val (.long w1), .second, .val (.long w2), .second, .unset, .unset, .unset, .unset, .unset, .unset, .unset, .unset, .unset, .unset] [])) _
          refine XS.lload X3.here hx rfl (hb hby at_31) rfl ?_
          show Steps p.tables e below (T3.setTop (mkF m 33 #[.val (.long q1), .second, .val (.long q2), .second, .val (.long q3), .second, .val (.long q4), .second, .val (.long q5), .second, .val (.long q6), .second, .val (.long k1), .second, .val (.long k2), .second, .val (.long k3), .second, .val (.long w1), .second, .val (.long w2), .second, .unset, .unset, .unset, .unset, .unset, .unset, .unset, .unset, .unset, .unset] [(.long w1)])) _
          refine XS.lload X3.here hx rfl (hb hby at_33) rfl ?_
          show Steps p.tables e below (T3.setTop (mkF m 35 #[.val (.long q1), .second, .val (.long q2), .second, .val (.long q3), .second, .val (.long q4), .second, .val (.long q5), .second, .val (.long q6), .second, .val (.long k1), .second, .val (.long k2), .second, .val (.long k3), .second, .val (.long w1), .second, .val (.long w2), .second, .unset, .unset, .unset, .unset, .unset, .unset, .unset, .unset, .unset, .unset] [(.long w2), (.long w1)])) _
          refine XS.lxor X3.here hx rfl (hb hby at_35) rfl ?_
          show Steps p.tables e below (T3.setTop (mkF m 36 #[.val (.long q1), .second, .val (.long q2), .second, .val (.long q3), .second, .val (.long q4), .second, .val (.long q5), .second, .val (.long q6), .second, .val (.long k1), .second, .val (.long k2), .second, .val (.long k3), .second, .val (.long w1), .second, .val (.long w2), .second, .unset, .unset, .unset, .unset, .unset, .unset, .unset, .unset, .unset, .unset] [(.long (w1 ^^^ w2))])) _
          refine XS.lstore X3.here hx rfl (hb hby at_36) rfl (l' := #[.val (.long q1), .second, .val (.long q2), .second, .val (.long q3), .second, .val (.long q4), .second, .val (.long q5), .second, .val (.long q6), .second, .val (.long k1), .second, .val (.long k2), .second, .val (.long k3), .second, .val (.long w1), .second, .val (.long w2), .second, .val (.long (w1 ^^^ w2)), .second, .unset, .unset, .unset, .unset, .unset, .unset, .unset, .unset]) rfl ?_
          show Steps p.tables e below (T3.setTop (mkF m 38 #[.val (.long q1), .second, .val (.long q2), .second, .val (.long q3), .second, .val (.long q4), .second, .val (.long q5), .second, .val (.long q6), .second, .val (.long k1), .second, .val (.long k2), .second, .val (.long k3), .second, .val (.long w1), .second, .val (.long w2), .second, .val (.long (w1 ^^^ w2)), .second, .unset, .unset, .unset, .unset, .unset, .unset, .unset, .unset] [])) _
          rw [← hw3]
          show Steps p.tables e below (T3.setTop (mkF m 38 #[.val (.long q1), .second, .val (.long q2), .second, .val (.long q3), .second, .val (.long q4), .second, .val (.long q5), .second, .val (.long q6), .second, .val (.long k1), .second, .val (.long k2), .second, .val (.long k3), .second, .val (.long w1), .second, .val (.long w2), .second, .val (.long w3), .second, .unset, .unset, .unset, .unset, .unset, .unset, .unset, .unset] [])) _
          refine XS.lload X3.here hx rfl (hb hby at_38) rfl ?_
          show Steps p.tables e below (T3.setTop (mkF m 40 #[.val (.long q1), .second, .val (.long q2), .second, .val (.long q3), .second, .val (.long q4), .second, .val (.long q5), .second, .val (.long q6), .second, .val (.long k1), .second, .val (.long k2), .second, .val (.long k3), .second, .val (.long w1), .second, .val (.long w2), .second, .val (.long w3), .second, .unset, .unset, .unset, .unset, .unset, .unset, .unset, .unset] [(.long q6)])) _
          refine X3.ldc2Long hx hown (mvT hZ (hw _ (List.mem_of_getElem? (i := 5) rfl))) (g := (mkF m 40 #[.val (.long q1), .second, .val (.long q2), .second, .val (.long q3), .second, .val (.long q4), .second, .val (.long q5), .second, .val (.long q6), .second, .val (.long k1), .second, .val (.long k2), .second, .val (.long k3), .second, .val (.long w1), .second, .val (.long w2), .second, .val (.long w3), .second, .unset, .unset, .unset, .unset, .unset, .unset, .unset, .unset] [(.long q6)])) rfl (hb hby at_40) _ ?_
          show Steps p.tables e below (T3.setTop (mkF m 43 #[.val (.long q1), .second, .val (.long q2), .second, .val (.long q3), .second, .val (.long q4), .second, .val (.long q5), .second, .val (.long q6), .second, .val (.long k1), .second, .val (.long k2), .second, .val (.long k3), .second, .val (.long w1), .second, .val (.long w2), .second, .val (.long w3), .second, .unset, .unset, .unset, .unset, .unset, .unset, .unset, .unset] [(.long (3 : Int64)), (.long q6)])) _
          refine XS.land X3.here hx rfl (hb hby at_43) rfl ?_
          show Steps p.tables e below (T3.setTop (mkF m 44 #[.val (.long q1), .second, .val (.long q2), .second, .val (.long q3), .second, .val (.long q4), .second, .val (.long q5), .second, .val (.long q6), .second, .val (.long k1), .second, .val (.long k2), .second, .val (.long k3), .second, .val (.long w1), .second, .val (.long w2), .second, .val (.long w3), .second, .unset, .unset, .unset, .unset, .unset, .unset, .unset, .unset] [(.long (q6 &&& (3 : Int64)))])) _
          refine XS.l2i X3.here hx rfl (hb hby at_44) rfl ?_
          show Steps p.tables e below (T3.setTop (mkF m 45 #[.val (.long q1), .second, .val (.long q2), .second, .val (.long q3), .second, .val (.long q4), .second, .val (.long q5), .second, .val (.long q6), .second, .val (.long k1), .second, .val (.long k2), .second, .val (.long k3), .second, .val (.long w1), .second, .val (.long w2), .second, .val (.long w3), .second, .unset, .unset, .unset, .unset, .unset, .unset, .unset, .unset] [(.int ((q6 &&& (3 : Int64)).toInt32))])) _
          refine XS.istore X3.here hx rfl (hb hby at_45) rfl (l' := #[.val (.long q1), .second, .val (.long q2), .second, .val (.long q3), .second, .val (.long q4), .second, .val (.long q5), .second, .val (.long q6), .second, .val (.long k1), .second, .val (.long k2), .second, .val (.long k3), .second, .val (.long w1), .second, .val (.long w2), .second, .val (.long w3), .second, .val (.int ((q6 &&& (3 : Int64)).toInt32)), .unset, .unset, .unset, .unset, .unset, .unset, .unset]) rfl ?_
          show Steps p.tables e below (T3.setTop (mkF m 47 #[.val (.long q1), .second, .val (.long q2), .second, .val (.long q3), .second, .val (.long q4), .second, .val (.long q5), .second, .val (.long q6), .second, .val (.long k1), .second, .val (.long k2), .second, .val (.long k3), .second, .val (.long w1), .second, .val (.long w2), .second, .val (.long w3), .second, .val (.int ((q6 &&& (3 : Int64)).toInt32)), .unset, .unset, .unset, .unset, .unset, .unset, .unset] [])) _
          rw [← hnn]
          show Steps p.tables e below (T3.setTop (mkF m 47 #[.val (.long q1), .second, .val (.long q2), .second, .val (.long q3), .second, .val (.long q4), .second, .val (.long q5), .second, .val (.long q6), .second, .val (.long k1), .second, .val (.long k2), .second, .val (.long k3), .second, .val (.long w1), .second, .val (.long w2), .second, .val (.long w3), .second, .val (.int nn), .unset, .unset, .unset, .unset, .unset, .unset, .unset] [])) _
          refine XS.lload X3.here hx rfl (hb hby at_47) rfl ?_
          show Steps p.tables e below (T3.setTop (mkF m 49 #[.val (.long q1), .second, .val (.long q2), .second, .val (.long q3), .second, .val (.long q4), .second, .val (.long q5), .second, .val (.long q6), .second, .val (.long k1), .second, .val (.long k2), .second, .val (.long k3), .second, .val (.long w1), .second, .val (.long w2), .second, .val (.long w3), .second, .val (.int nn), .unset, .unset, .unset, .unset, .unset, .unset, .unset] [(.long q6)])) _
          refine XS.iconst X3.here hx rfl (hb hby at_49) ?_
          show Steps p.tables e below (T3.setTop (mkF m 50 #[.val (.long q1), .second, .val (.long q2), .second, .val (.long q3), .second, .val (.long q4), .second, .val (.long q5), .second, .val (.long q6), .second, .val (.long k1), .second, .val (.long k2), .second, .val (.long k3), .second, .val (.long w1), .second, .val (.long w2), .second, .val (.long w3), .second, .val (.int nn), .unset, .unset, .unset, .unset, .unset, .unset, .unset] [(.int (2 : Int32)), (.long q6)])) _
          refine XS.lshr X3.here hx rfl (hb hby at_50) rfl ?_
          show Steps p.tables e below (T3.setTop (mkF m 51 #[.val (.long q1), .second, .val (.long q2), .second, .val (.long q3), .second, .val (.long q4), .second, .val (.long q5), .second, .val (.long q6), .second, .val (.long k1), .second, .val (.long k2), .second, .val (.long k3), .second, .val (.long w1), .second, .val (.long w2), .second, .val (.long w3), .second, .val (.int nn), .unset, .unset, .unset, .unset, .unset, .unset, .unset] [(.long (q6 >>> ((2 : Int32) &&& 0x3f).toInt64))])) _
          refine XS.lstore X3.here hx rfl (hb hby at_51) rfl (l' := #[.val (.long q1), .second, .val (.long q2), .second, .val (.long q3), .second, .val (.long q4), .second, .val (.long q5), .second, .val (.long q6), .second, .val (.long k1), .second, .val (.long k2), .second, .val (.long k3), .second, .val (.long w1), .second, .val (.long w2), .second, .val (.long w3), .second, .val (.int nn), .val (.long (q6 >>> ((2 : Int32) &&& 0x3f).toInt64)), .second, .unset, .unset, .unset, .unset, .unset]) rfl ?_
          show Steps p.tables e below (T3.setTop (mkF m 53 #[.val (.long q1), .second, .val (.long q2), .second, .val (.long q3), .second, .val (.long q4), .second, .val (.long q5), .second, .val (.long q6), .second, .val (.long k1), .second, .val (.long k2), .second, .val (.long k3), .second, .val (.long w1), .second, .val (.long w2), .second, .val (.long w3), .second, .val (.int nn), .val (.long (q6 >>> ((2 : Int32) &&& 0x3f).toInt64)), .second, .unset, .unset, .unset, .unset, .unset] [])) _
          rw [← hqz]
          show Steps p.tables e below (T3.setTop (mkF m 53 #[.val (.long q1), .second, .val (.long q2), .second, .val (.long q3), .second, .val (.long q4), .second, .val (.long q5), .second, .val (.long q6), .second, .val (.long k1), .second, .val (.long k2), .second, .val (.long k3), .second, .val (.long w1), .second, .val (.long w2), .second, .val (.long w3), .second, .val (.int nn), .val (.long qz), .second, .unset, .unset, .unset, .unset, .unset] [])) _
          refine st4 _ ?_
          show Steps p.tables e below (T4.setTop (mkF m 56 #[.val (.long q1), .second, .val (.long q2), .second, .val (.long q3), .second, .val (.long q4), .second, .val (.long q5), .second, .val (.long q6), .second, .val (.long k1), .second, .val (.long k2), .second, .val (.long k3), .second, .val (.long w1), .second, .val (.long w2), .second, .val (.long w3), .second, .val (.int nn), .val (.long qz), .second, .unset, .unset, .unset, .unset, .unset] [(.ref b4o)])) _
          refine XS.dup X4.here hx rfl (hb hby at_56) rfl rfl ?_
          show Steps p.tables e below (T4.setTop (mkF m 57 #[.val (.long q1), .second, .val (.long q2), .second, .val (.long q3), .second, .val (.long q4), .second, .val (.long q5), .second, .val (.long q6), .second, .val (.long k1), .second, .val (.long k2), .second, .val (.long k3), .second, .val (.long w1), .second, .val (.long w2), .second, .val (.long w3), .second, .val (.int nn), .val (.long qz), .second, .unset, .unset, .unset, .unset, .unset] [(.ref b4o), (.ref b4o)])) _
          refine st5.trans ?_
          show Steps p.tables e below (T5.setTop (mkF m 60 #[.val (.long q1), .second, .val (.long q2), .second, .val (.long q3), .second, .val (.long q4), .second, .val (.long q5), .second, .val (.long q6), .second, .val (.long k1), .second, .val (.long k2), .second, .val (.long k3), .second, .val (.long w1), .second, .val (.long w2), .second, .val (.long w3), .second, .val (.int nn), .val (.long qz), .second, .unset, .unset, .unset, .unset, .unset] [(.ref b4o)])) _
          refine XS.astore X5.here hx rfl (hb hby at_60) rfl rfl (l' := #[.val (.long q1), .second, .val (.long q2), .second, .val (.long q3), .second, .val (.long q4), .second, .val (.long q5), .second, .val (.long q6), .second, .val (.long k1), .second, .val (.long k2), .second, .val (.long k3), .second, .val (.long w1), .second, .val (.long w2), .second, .val (.long w3), .second, .val (.int nn), .val (.long qz), .second, .val (.ref b4o), .unset, .unset, .unset, .unset]) rfl ?_
          show Steps p.tables e below (T5.setTop (mkF m 62 #[.val (.long q1), .second, .val (.long q2), .second, .val (.long q3), .second, .val (.long q4), .second, .val (.long q5), .second, .val (.long q6), .second, .val (.long k1), .second, .val (.long k2), .second, .val (.long k3), .second, .val (.long w1), .second, .val (.long w2), .second, .val (.long w3), .second, .val (.int nn), .val (.long qz), .second, .val (.ref b4o), .unset, .unset, .unset, .unset] [])) _
          refine XS.iload X5.here hx rfl (hb hby at_62) rfl ?_
          show Steps p.tables e below (T5.setTop (mkF m 64 #[.val (.long q1), .second, .val (.long q2), .second, .val (.long q3), .second, .val (.long q4), .second, .val (.long q5), .second, .val (.long q6), .second, .val (.long k1), .second, .val (.long k2), .second, .val (.long k3), .second, .val (.long w1), .second, .val (.long w2), .second, .val (.long w3), .second, .val (.int nn), .val (.long qz), .second, .val (.ref b4o), .unset, .unset, .unset, .unset] [(.int nn)])) _
          refine XS.iconst X5.here hx rfl (hb hby at_64) ?_
          show Steps p.tables e below (T5.setTop (mkF m 65 #[.val (.long q1), .second, .val (.long q2), .second, .val (.long q3), .second, .val (.long q4), .second, .val (.long q5), .second, .val (.long q6), .second, .val (.long k1), .second, .val (.long k2), .second, .val (.long k3), .second, .val (.long w1), .second, .val (.long w2), .second, .val (.long w3), .second, .val (.int nn), .val (.long qz), .second, .val (.ref b4o), .unset, .unset, .unset, .unset] [(.int (1 : Int32)), (.int nn)])) _
          refine XS.icmpNo X5.here hx rfl (hb hby at_65) rfl (flt hc65).1 ?_
          show Steps p.tables e below (T5.setTop (mkF m 68 #[.val (.long q1), .second, .val (.long q2), .second, .val (.long q3), .second, .val (.long q4), .second, .val (.long q5), .second, .val (.long q6), .second, .val (.long k1), .second, .val (.long k2), .second, .val (.long k3), .second, .val (.long w1), .second, .val (.long w2), .second, .val (.long w3), .second, .val (.int nn), .val (.long qz), .second, .val (.ref b4o), .unset, .unset, .unset, .unset] [])) _
          refine XS.aload X5.here hx rfl (hb hby at_68) rfl rfl ?_
          show Steps p.tables e below (T5.setTop (mkF m 70 #[.val (.long q1), .second, .val (.long q2), .second, .val (.long q3), .second, .val (.long q4), .second, .val (.long q5), .second, .val (.long q6), .second, .val (.long k1), .second, .val (.long k2), .second, .val (.long k3), .second, .val (.long w1), .second, .val (.long w2), .second, .val (.long w3), .second, .val (.int nn), .val (.long qz), .second, .val (.ref b4o), .unset, .unset, .unset, .unset] [(.ref b4o)])) _
          refine XS.lload X5.here hx rfl (hb hby at_70) rfl ?_
          show Steps p.tables e below (T5.setTop (mkF m 72 #[.val (.long q1), .second, .val (.long q2), .second, .val (.long q3), .second, .val (.long q4), .second, .val (.long q5), .second, .val (.long q6), .second, .val (.long k1), .second, .val (.long k2), .second, .val (.long k3), .second, .val (.long w1), .second, .val (.long w2), .second, .val (.long w3), .second, .val (.int nn), .val (.long qz), .second, .val (.ref b4o), .unset, .unset, .unset, .unset] [(.long k1), (.ref b4o)])) _
          refine XS.lload X5.here hx rfl (hb hby at_72) rfl ?_
          show Steps p.tables e below (T5.setTop (mkF m 74 #[.val (.long q1), .second, .val (.long q2), .second, .val (.long q3), .second, .val (.long q4), .second, .val (.long q5), .second, .val (.long q6), .second, .val (.long k1), .second, .val (.long k2), .second, .val (.long k3), .second, .val (.long w1), .second, .val (.long w2), .second, .val (.long w3), .second, .val (.int nn), .val (.long qz), .second, .val (.ref b4o), .unset, .unset, .unset, .unset] [(.long w1), (.long k1), (.ref b4o)])) _
          refine st7.trans ?_
          show Steps p.tables e below (T7.setTop (mkF m 77 #[.val (.long q1), .second, .val (.long q2), .second, .val (.long q3), .second, .val (.long q4), .second, .val (.long q5), .second, .val (.long q6), .second, .val (.long k1), .second, .val (.long k2), .second, .val (.long k3), .second, .val (.long w1), .second, .val (.long w2), .second, .val (.long w3), .second, .val (.int nn), .val (.long qz), .second, .val (.ref b4o), .unset, .unset, .unset, .unset] [])) _
          refine XS.iload X7.here hx rfl (hb hby at_77) rfl ?_
          show Steps p.tables e below (T7.setTop (mkF m 79 #[.val (.long q1), .second, .val (.long q2), .second, .val (.long q3), .second, .val (.long q4), .second, .val (.long q5), .second, .val (.long q6), .second, .val (.long k1), .second, .val (.long k2), .second, .val (.long k3), .second, .val (.long w1), .second, .val (.long w2), .second, .val (.long w3), .second, .val (.int nn), .val (.long qz), .second, .val (.ref b4o), .unset, .unset, .unset, .unset] [(.int nn)])) _
          refine XS.iconst X7.here hx rfl (hb hby at_79) ?_
          show Steps p.tables e below (T7.setTop (mkF m 80 #[.val (.long q1), .second, .val (.long q2), .second, .val (.long q3), .second, .val (.long q4), .second, .val (.long q5), .second, .val (.long q6), .second, .val (.long k1), .second, .val (.long k2), .second, .val (.long k3), .second, .val (.long w1), .second, .val (.long w2), .second, .val (.long w3), .second, .val (.int nn), .val (.long qz), .second, .val (.ref b4o), .unset, .unset, .unset, .unset] [(.int (2 : Int32)), (.int nn)])) _
          refine XS.icmpNo X7.here hx rfl (hb hby at_80) rfl (flt hc80).1 ?_
          show Steps p.tables e below (T7.setTop (mkF m 83 #[.val (.long q1), .second, .val (.long q2), .second, .val (.long q3), .second, .val (.long q4), .second, .val (.long q5), .second, .val (.long q6), .second, .val (.long k1), .second, .val (.long k2), .second, .val (.long k3), .second, .val (.long w1), .second, .val (.long w2), .second, .val (.long w3), .second, .val (.int nn), .val (.long qz), .second, .val (.ref b4o), .unset, .unset, .unset, .unset] [])) _
          refine XS.aload X7.here hx rfl (hb hby at_83) rfl rfl ?_
          show Steps p.tables e below (T7.setTop (mkF m 85 #[.val (.long q1), .second, .val (.long q2), .second, .val (.long q3), .second, .val (.long q4), .second, .val (.long q5), .second, .val (.long q6), .second, .val (.long k1), .second, .val (.long k2), .second, .val (.long k3), .second, .val (.long w1), .second, .val (.long w2), .second, .val (.long w3), .second, .val (.int nn), .val (.long qz), .second, .val (.ref b4o), .unset, .unset, .unset, .unset] [(.ref b4o)])) _
          refine XS.lload X7.here hx rfl (hb hby at_85) rfl ?_
          show Steps p.tables e below (T7.setTop (mkF m 87 #[.val (.long q1), .second, .val (.long q2), .second, .val (.long q3), .second, .val (.long q4), .second, .val (.long q5), .second, .val (.long q6), .second, .val (.long k1), .second, .val (.long k2), .second, .val (.long k3), .second, .val (.long w1), .second, .val (.long w2), .second, .val (.long w3), .second, .val (.int nn), .val (.long qz), .second, .val (.ref b4o), .unset, .unset, .unset, .unset] [(.long k2), (.ref b4o)])) _
          refine XS.lload X7.here hx rfl (hb hby at_87) rfl ?_
          show Steps p.tables e below (T7.setTop (mkF m 89 #[.val (.long q1), .second, .val (.long q2), .second, .val (.long q3), .second, .val (.long q4), .second, .val (.long q5), .second, .val (.long q6), .second, .val (.long k1), .second, .val (.long k2), .second, .val (.long k3), .second, .val (.long w1), .second, .val (.long w2), .second, .val (.long w3), .second, .val (.int nn), .val (.long qz), .second, .val (.ref b4o), .unset, .unset, .unset, .unset] [(.long w2), (.long k2), (.ref b4o)])) _
          refine st10.trans ?_
          show Steps p.tables e below (T10.setTop (mkF m 92 #[.val (.long q1), .second, .val (.long q2), .second, .val (.long q3), .second, .val (.long q4), .second, .val (.long q5), .second, .val (.long q6), .second, .val (.long k1), .second, .val (.long k2), .second, .val (.long k3), .second, .val (.long w1), .second, .val (.long w2), .second, .val (.long w3), .second, .val (.int nn), .val (.long qz), .second, .val (.ref b4o), .unset, .unset, .unset, .unset] [])) _
          refine XS.iload X10.here hx rfl (hb hby at_92) rfl ?_
          show Steps p.tables e below (T10.setTop (mkF m 94 #[.val (.long q1), .second, .val (.long q2), .second, .val (.long q3), .second, .val (.long q4), .second, .val (.long q5), .second, .val (.long q6), .second, .val (.long k1), .second, .val (.long k2), .second, .val (.long k3), .second, .val (.long w1), .second, .val (.long w2), .second, .val (.long w3), .second, .val (.int nn), .val (.long qz), .second, .val (.ref b4o), .unset, .unset, .unset, .unset] [(.int nn)])) _
          refine XS.iconst X10.here hx rfl (hb hby at_94) ?_
          show Steps p.tables e below (T10.setTop (mkF m 95 #[.val (.long q1), .second, .val (.long q2), .second, .val (.long q3), .second, .val (.long q4), .second, .val (.long q5), .second, .val (.long q6), .second, .val (.long k1), .second, .val (.long k2), .second, .val (.long k3), .second, .val (.long w1), .second, .val (.long w2), .second, .val (.long w3), .second, .val (.int nn), .val (.long qz), .second, .val (.ref b4o), .unset, .unset, .unset, .unset] [(.int (3 : Int32)), (.int nn)])) _
          refine XS.icmpNo X10.here hx rfl (hb hby at_95) rfl (flt hc95).1 ?_
          show Steps p.tables e below (T10.setTop (mkF m 98 #[.val (.long q1), .second, .val (.long q2), .second, .val (.long q3), .second, .val (.long q4), .second, .val (.long q5), .second, .val (.long q6), .second, .val (.long k1), .second, .val (.long k2), .second, .val (.long k3), .second, .val (.long w1), .second, .val (.long w2), .second, .val (.long w3), .second, .val (.int nn), .val (.long qz), .second, .val (.ref b4o), .unset, .unset, .unset, .unset] [])) _
          refine XS.aload X10.here hx rfl (hb hby at_98) rfl rfl ?_
          show Steps p.tables e below (T10.setTop (mkF m 100 #[.val (.long q1), .second, .val (.long q2), .second, .val (.long q3), .second, .val (.long q4), .second, .val (.long q5), .second, .val (.long q6), .second, .val (.long k1), .second, .val (.long k2), .second, .val (.long k3), .second, .val (.long w1), .second, .val (.long w2), .second, .val (.long w3), .second, .val (.int nn), .val (.long qz), .second, .val (.ref b4o), .unset, .unset, .unset, .unset] [(.ref b4o)])) _
          refine XS.lload X10.here hx rfl (hb hby at_100) rfl ?_
          show Steps p.tables e below (T10.setTop (mkF m 102 #[.val (.long q1), .second, .val (.long q2), .second, .val (.long q3), .second, .val (.long q4), .second, .val (.long q5), .second, .val (.long q6), .second, .val (.long k1), .second, .val (.long k2), .second, .val (.long k3), .second, .val (.long w1), .second, .val (.long w2), .second, .val (.long w3), .second, .val (.int nn), .val (.long qz), .second, .val (.ref b4o), .unset, .unset, .unset, .unset] [(.long k3), (.ref b4o)])) _
          refine XS.lload X10.here hx rfl (hb hby at_102) rfl ?_
          show Steps p.tables e below (T10.setTop (mkF m 104 #[.val (.long q1), .second, .val (.long q2), .second, .val (.long q3), .second, .val (.long q4), .second, .val (.long q5), .second, .val (.long q6), .second, .val (.long k1), .second, .val (.long k2), .second, .val (.long k3), .second, .val (.long w1), .second, .val (.long w2), .second, .val (.long w3), .second, .val (.int nn), .val (.long qz), .second, .val (.ref b4o), .unset, .unset, .unset, .unset] [(.long w3), (.long k3), (.ref b4o)])) _
          refine st13.trans ?_
          show Steps p.tables e below (T13.setTop (mkF m 107 #[.val (.long q1), .second, .val (.long q2), .second, .val (.long q3), .second, .val (.long q4), .second, .val (.long q5), .second, .val (.long q6), .second, .val (.long k1), .second, .val (.long k2), .second, .val (.long k3), .second, .val (.long w1), .second, .val (.long w2), .second, .val (.long w3), .second, .val (.int nn), .val (.long qz), .second, .val (.ref b4o), .unset, .unset, .unset, .unset] [])) _
          refine st15 _ ?_
          show Steps p.tables e below (T15.setTop (mkF m 280 #[.val (.long q1), .second, .val (.long q2), .second, .val (.long q3), .second, .val (.long q4), .second, .val (.long q5), .second, .val (.long q6), .second, .val (.long k1), .second, .val (.long k2), .second, .val (.long k3), .second, .val (.long w1), .second, .val (.long w2), .second, .val (.long w3), .second, .val (.int nn), .val (.long qz), .second, .val (.ref b4o), .val (.int (1 : Int32)), .val (.int (1 : Int32)), .val (.int (1 : Int32)), .val (.int (1 : Int32))] [(.int (1 : Int32))])) _
          exact retN X15 hx (t := .boolean) Bd.returns (by simp) (hb hby at_280) hr
        · show Qrm0 Z q1 q2 q3 q4 q5 q6 h0 n0 _ T15.heap _
          exact ⟨rfl, N15⟩
set_option maxRecDepth 65536 in
set_option maxHeartbeats 40000000 in
theorem comes_1 {Post : Tables → Env → Array Value → State → Outcome → State → Prop} (hpost : ∀ tb e args s v u, (limb_1_1.after args s (.returned v) u = true ∧ limb_1_2.after args s (.returned v) u = true) → FrameEnd s (.returned v) u (Jvm.fieldLocs frame_1_writes args s ++ Jvm.arrayLocs frame_1_arrays args s ++ Jvm.staticLocs frame_1_statics s) 16 128 → Post tb e args s (.returned v) u) :
    ArmFor flags0 classFile x code maxLocals ret World_1 tables_1 room_1 Calls_1 rest_1 Pre_1 Post := by
  intro l hfl _ _ p e ha hc hk s m args below hf hA hF happ hP
  obtain ⟨hcalls, hrest, hpre⟩ := hP
  obtain ⟨-, -, -, hnamed, -, -, -, hat⟩ := (Spec.applies_iff hf).mp happ
  obtain ⟨hg, hn⟩ := and_e (Cond.before_iff.mp (show (Jvm.Cond.and given_1 narrow_1).before args s = true from hpre))
  obtain ⟨hcount, hg0⟩ := and_e hg
  obtain ⟨ha0, hg1⟩ := and_e hg0
  obtain ⟨ha1, hg2⟩ := and_e hg1
  obtain ⟨ha2, hg3⟩ := and_e hg2
  obtain ⟨ha3, hg4⟩ := and_e hg3
  obtain ⟨ha4, hg5⟩ := and_e hg4
  obtain ⟨w0, w1, w2, w3, w4, w5, rfl⟩ : ∃ w0 w1 w2 w3 w4 w5 : Value, args = #[w0, w1, w2, w3, w4, w5] := by
    have hs : args.size = 6 := by simpa [Cond.value, given_1] using hcount
    obtain ⟨L⟩ := args
    match L, hs with
    | [w0, w1, w2, w3, w4, w5], _ => exact ⟨w0, w1, w2, w3, w4, w5, rfl⟩
  have hw := fun d (hd : d ∈ tables_1) => atoms_spec (ws := Jvm.Cond.code x code maxLocals ret :: tables_1) hat d (List.mem_cons_of_mem _ hd)
  have hfit : Fit s := fun {y c} hc i hi => by
    obtain ⟨ha, rfl⟩ := Array.getElem?_eq_some_iff.mp hc
    have q := List.all_eq_true.mp ((Array.all_eq_true_iff_forall_mem.mp hF) _ (Array.getElem_mem ha)) i (List.mem_range.mpr hi)
    simpa [Array.getElem?_eq_getElem hi] using q
  obtain ⟨i0, ei0⟩ := isL_v ha0
  obtain rfl : w0 = (.long i0) := Option.some.inj ei0
  obtain ⟨i1, ei1⟩ := isL_v ha1
  obtain rfl : w1 = (.long i1) := Option.some.inj ei1
  obtain ⟨i2, ei2⟩ := isL_v ha2
  obtain rfl : w2 = (.long i2) := Option.some.inj ei2
  obtain ⟨i3, ei3⟩ := isL_v ha3
  obtain rfl : w3 = (.long i3) := Option.some.inj ei3
  obtain ⟨i4, ei4⟩ := isL_v ha4
  obtain rfl : w4 = (.long i4) := Option.some.inj ei4
  obtain ⟨i5, ei5⟩ := isL_v hg5
  obtain rfl : w5 = (.long i5) := Option.some.inj ei5
  obtain ⟨n, o, h1, h2, h3, _, L, rfl, ⟨rfl, N⟩, hq⟩ := rm0 l s _ hw tables_1 i0 i1 i2 i3 i4 i5  s.heap s.heap.size (Nat.le_refl _)  p e ha hc hk s m _ below hf ((Spec.applies_iff_loose hf).mp happ).1 ⟨rfl, State.Warmed39.refl s, rfl⟩ trivial
  refine ⟨n, _, h1, h2, h3, hpost _ _ _ _ _ _ ⟨Cond.after_iff.mpr rfl, Cond.after_iff.mpr (eq_i res_at (Term.int_eval (1)) rfl)⟩ ⟨hq.1, hq.2.1, (hq.2.2.sift fun y hy => Or.inr (N y hy)).mono (by decide) (by decide)⟩⟩
theorem main_1_1 : Claimed_1_1 := comes_1 fun _ _ _ _ _ _ h hF => ⟨h.1, hF⟩
theorem main_1_2 : Claimed_1_2 := comes_1 fun _ _ _ _ _ _ h hF => ⟨h.2, hF⟩
end Jvm.Pilot.@@N@@
namespace Jvm.Pilot.@@N@@
open Jvm Jvm.ClassFile Sem Op Lib Jvm.Free Jvm.Stand Jvm.Pilot.@@N@@.Jvm.D
/-! MADE BY PROGRAM (witnessworld.py) out of the Statement's table words and the real class files: 18 classes; the members and pool entries that the words name. The judged class is class 1, her method 3. -/
namespace start1
open Jvm.ClassFile
def u (s : String) : CpInfo := .utf8 (stringToUtf16 s)
/-- a pool by its gaps: so many unusable entries, then the entry; so many at the end -/
def gap : Nat → List CpInfo → List CpInfo
  | 0, r => r
  | n + 1, r => .unusable :: gap n r
def poolList (es : List (Nat × CpInfo)) (last : Nat) : List CpInfo := es.foldr (fun e r => gap e.1 (e.2 :: r)) (gap last [])
def pool (es : List (Nat × CpInfo)) (last : Nat) : Array CpInfo := ⟨poolList es last⟩
def fileOf (pool : Array CpInfo) (this : Nat) (attrs : Array Attribute := #[]) (ms : Array MethodInfo := #[]) (fl : Nat := 33) (sup : Nat := 0) (ifs : Array Nat := #[]) (fds : Array FieldInfo := #[]) : ClassFile where
  minorVersion := 0
  majorVersion := 65
  constantPool := pool
  accessFlags := fl
  thisClass := this
  superClass := sup
  interfaces := ifs
  fields := fds
  methods := ms
  attributes := attrs
def plain (name : String) (sup : Option ClassId) : Class where
  name := name
  kind := .ordinary
  loader := none
  accessFlags := 33
  super := sup
  interfaces := #[]
  cf := none
  fields := #[]
  methods := #[]
  instanceTypes := #[]
  staticTypes := #[]
  resolved := #[]
  callSites := []
  init := .initialized
  statics := none
  mirror := none

def pool0 : Array CpInfo := pool [(5, u "<init>"), (0, u "()V"), (1, .class_ 10), (1, u "java/lang/Object")] 113

def k0c0 : Code := { maxStack := 0, maxLocals := 1, code := object_method_1_code, exceptionTable := #[], attributes := #[] }
def k0m0 : Method := { name := "<init>", desc := "()V", sig := { parameters := [], returnType := none }, accessFlags := 1, code := some k0c0 }
/-- java/lang/Object -/
def k0 : Class := { plain "java/lang/Object" none with
  accessFlags := 33
  interfaces := #[]
  cf := some (fileOf pool0 8 #[] #[{ accessFlags := 1, nameIndex := 5, descriptorIndex := 6, attributes := #[] }] 33 0 #[] #[])
  fields := #[]
  methods := #[k0m0]
  instanceTypes := #[]
  staticTypes := #[]
  resolved := Array.replicate 124 none
  statics := none }

def pool1 : Array CpInfo := pool [(2, .class_ 4), (0, .nameAndType 5 6), (0, u "java/lang/Object"), (0, u "<init>"), (0, u "()V"), (2, .long 9223372036854775808), (1, .methodref 12 13), (0, .class_ 14), (0, .nameAndType 15 16), (0, u "com/example/pricewright/pricewright/core/LongSumTableGetPinLaw"), (0, u "key"), (0, u "(J)J"), (0, .long 3), (1, .class_ 20), (0, u "com/example/pricewright/pricewright/core/LongSumTable"), (0, .methodref 19 3), (0, .methodref 19 23), (0, .nameAndType 24 25), (0, u "add"), (0, u "(JJ)V"), (0, .methodref 19 27), (0, .nameAndType 28 16), (0, u "get"), (0, .methodref 12 30), (0, .nameAndType 31 32), (0, u "expect"), (0, u "(JIJJJJJJ)J"), (3, u "law"), (0, u "(JJJJJJ)Z")] 2

def k1m0 : Method := { name := "<init>", desc := "()V", sig := { parameters := [], returnType := none }, accessFlags := 1, code := none }
def k1c1 : Code := { maxStack := 4, maxLocals := 2, code := method_2_code, exceptionTable := #[], attributes := #[] }
def k1m1 : Method := { name := "key", desc := "(J)J", sig := { parameters := [.long], returnType := some .long }, accessFlags := 10, code := some k1c1 }
def k1c2 : Code := { maxStack := 4, maxLocals := 17, code := method_3_code, exceptionTable := #[], attributes := #[] }
def k1m2 : Method := { name := "expect", desc := "(JIJJJJJJ)J", sig := { parameters := [.long, .int, .long, .long, .long, .long, .long, .long], returnType := some .long }, accessFlags := 10, code := some k1c2 }
def k1c3 : Code := { maxStack := 17, maxLocals := 32, code := code, exceptionTable := #[], attributes := #[] }
def k1m3 : Method := { name := "law", desc := "(JJJJJJ)Z", sig := { parameters := [.long, .long, .long, .long, .long, .long], returnType := some .boolean }, accessFlags := 9, code := some k1c3 }
/-- com/example/pricewright/pricewright/core/LongSumTableGetPinLaw -/
def k1 : Class := { plain "com/example/pricewright/pricewright/core/LongSumTableGetPinLaw" (some 0) with
  accessFlags := 49
  interfaces := #[]
  cf := some (fileOf pool1 12 #[] #[{ accessFlags := 1, nameIndex := 5, descriptorIndex := 6, attributes := #[] }, { accessFlags := 10, nameIndex := 15, descriptorIndex := 16, attributes := #[] }, { accessFlags := 10, nameIndex := 31, descriptorIndex := 32, attributes := #[] }, { accessFlags := 9, nameIndex := 36, descriptorIndex := 37, attributes := #[] }] 49 2 #[] #[])
  fields := #[]
  methods := #[k1m0, k1m1, k1m2, k1m3]
  instanceTypes := #[]
  staticTypes := #[]
  resolved := Array.replicate 40 none
  statics := none }

def pool2 : Array CpInfo := pool [(1, .class_ 2), (0, u "java/lang/Long"), (0, .class_ 4), (0, u "com/example/pricewright/pricewright/core/LongSumTable"), (0, .methodref 3 6), (0, .nameAndType 7 8), (0, u "<init>"), (0, u "(I)V"), (0, .methodref 10 11), (0, .class_ 12), (0, .nameAndType 7 13), (0, u "java/lang/Object"), (0, u "()V"), (0, .fieldref 3 15), (0, .nameAndType 16 17), (0, u "slots"), (0, u "[J"), (0, .long 9223372036854775808), (1, .methodref 1 21), (0, .nameAndType 22 23), (0, u "numberOfLeadingZeros"), (0, u "(J)I"), (0, .fieldref 3 25), (0, .nameAndType 26 27), (0, u "shift"), (0, u "I"), (0, .methodref 3 29), (0, .nameAndType 30 31), (0, u "held"), (0, u "(J)J"), (0, .methodref 3 33), (0, .nameAndType 34 23), (0, u "index"), (0, .methodref 36 37), (0, .class_ 38), (0, .nameAndType 39 40), (0, u "java/lang/Math"), (0, u "addExact"), (0, u "(JJ)J"), (0, .fieldref 3 42), (0, .nameAndType 43 17), (0, u "sorted"), (0, .fieldref 3 45), (0, .nameAndType 46 27), (0, u "size"), (0, .methodref 3 48), (0, .nameAndType 49 8), (0, u "resize"), (9, .methodref 3 60), (0, .nameAndType 61 62), (0, u "put"), (0, u "(JJ)V"), (7, .long 11400714819323198485), (1, u "FREE"), (0, u "J"), (1, u "INITIAL_CAPACITY"), (4, u "add"), (0, u "get")] 6

def k2c0 : Code := { maxStack := 2, maxLocals := 1, code := prog_19_method_1_code, exceptionTable := #[], attributes := #[] }
def k2m0 : Method := { name := "<init>", desc := "()V", sig := { parameters := [], returnType := none }, accessFlags := 0, code := some k2c0 }
def k2c1 : Code := { maxStack := 4, maxLocals := 3, code := prog_19_method_2_code, exceptionTable := #[], attributes := #[] }
def k2m1 : Method := { name := "<init>", desc := "(I)V", sig := { parameters := [.int], returnType := none }, accessFlags := 2, code := some k2c1 }
def k2c2 : Code := { maxStack := 6, maxLocals := 6, code := prog_19_method_3_code, exceptionTable := #[], attributes := #[] }
def k2m2 : Method := { name := "add", desc := "(JJ)V", sig := { parameters := [.long, .long], returnType := none }, accessFlags := 0, code := some k2c2 }
def k2c3 : Code := { maxStack := 4, maxLocals := 4, code := prog_19_method_4_code, exceptionTable := #[], attributes := #[] }
def k2m3 : Method := { name := "get", desc := "(J)J", sig := { parameters := [.long], returnType := some .long }, accessFlags := 0, code := some k2c3 }
def k2c4 : Code := { maxStack := 4, maxLocals := 2, code := prog_19_method_7_code, exceptionTable := #[], attributes := #[] }
def k2m4 : Method := { name := "held", desc := "(J)J", sig := { parameters := [.long], returnType := some .long }, accessFlags := 10, code := some k2c4 }
def k2c5 : Code := { maxStack := 4, maxLocals := 5, code := prog_19_method_8_code, exceptionTable := #[], attributes := #[] }
def k2m5 : Method := { name := "index", desc := "(J)I", sig := { parameters := [.long], returnType := some .int }, accessFlags := 2, code := some k2c5 }
def k2c6 : Code := { maxStack := 6, maxLocals := 4, code := prog_19_method_9_code, exceptionTable := #[], attributes := #[] }
def k2m6 : Method := { name := "resize", desc := "(I)V", sig := { parameters := [.int], returnType := none }, accessFlags := 2, code := some k2c6 }
def k2c7 : Code := { maxStack := 4, maxLocals := 6, code := prog_19_method_10_code, exceptionTable := #[], attributes := #[] }
def k2m7 : Method := { name := "put", desc := "(JJ)V", sig := { parameters := [.long, .long], returnType := none }, accessFlags := 2, code := some k2c7 }
/-- com/example/pricewright/pricewright/core/LongSumTable -/
def k2 : Class := { plain "com/example/pricewright/pricewright/core/LongSumTable" (some 0) with
  accessFlags := 48
  interfaces := #[]
  cf := some (fileOf pool2 3 #[] #[{ accessFlags := 0, nameIndex := 7, descriptorIndex := 13, attributes := #[] }, { accessFlags := 2, nameIndex := 7, descriptorIndex := 8, attributes := #[] }, { accessFlags := 0, nameIndex := 80, descriptorIndex := 62, attributes := #[] }, { accessFlags := 0, nameIndex := 81, descriptorIndex := 31, attributes := #[] }, { accessFlags := 10, nameIndex := 30, descriptorIndex := 31, attributes := #[] }, { accessFlags := 2, nameIndex := 34, descriptorIndex := 23, attributes := #[] }, { accessFlags := 2, nameIndex := 49, descriptorIndex := 8, attributes := #[] }, { accessFlags := 2, nameIndex := 61, descriptorIndex := 62, attributes := #[] }] 48 10 #[] #[{ accessFlags := 24, nameIndex := 72, descriptorIndex := 73, attributes := #[] }, { accessFlags := 26, nameIndex := 75, descriptorIndex := 27, attributes := #[] }, { accessFlags := 2, nameIndex := 16, descriptorIndex := 17, attributes := #[] }, { accessFlags := 2, nameIndex := 26, descriptorIndex := 27, attributes := #[] }, { accessFlags := 2, nameIndex := 46, descriptorIndex := 27, attributes := #[] }, { accessFlags := 2, nameIndex := 43, descriptorIndex := 17, attributes := #[] }])
  fields := #[{ name := "FREE", type := .long, accessFlags := 24, slot := 0, constantValue := 0 }, { name := "INITIAL_CAPACITY", type := .int, accessFlags := 26, slot := 1, constantValue := 0 }, { name := "slots", type := (.array .long), accessFlags := 2, slot := 0, constantValue := 0 }, { name := "shift", type := .int, accessFlags := 2, slot := 1, constantValue := 0 }, { name := "size", type := .int, accessFlags := 2, slot := 2, constantValue := 0 }, { name := "sorted", type := (.array .long), accessFlags := 2, slot := 3, constantValue := 0 }]
  methods := #[k2m0, k2m1, k2m2, k2m3, k2m4, k2m5, k2m6, k2m7]
  instanceTypes := #[(.array .long), .int, .int, (.array .long)]
  staticTypes := #[.long, .int]
  resolved := Array.replicate 88 none
  statics := none }

def pool3 : Array CpInfo := pool [(1, .class_ 2), (0, u "java/io/Serializable"), (0, .class_ 4), (0, u "java/lang/Object")] 2

/-- java/io/Serializable -/
def k3 : Class := { plain "java/io/Serializable" (some 0) with
  accessFlags := 1537
  interfaces := #[]
  cf := some (fileOf pool3 1 #[] #[] 1537 3 #[] #[])
  fields := #[]
  methods := #[]
  instanceTypes := #[]
  staticTypes := #[]
  resolved := Array.replicate 7 none
  statics := none }

def pool4 : Array CpInfo := pool [(2, .class_ 4), (1, u "java/lang/Object"), (0, u "<init>"), (0, u "()V"), (1, .class_ 10), (1, u "java/lang/Number"), (2, .class_ 14), (0, u "java/io/Serializable"), (0, u "serialVersionUID"), (0, u "J")] 20

def k4m0 : Method := { name := "<init>", desc := "()V", sig := { parameters := [], returnType := none }, accessFlags := 1, code := none }
/-- java/lang/Number -/
def k4 : Class := { plain "java/lang/Number" (some 0) with
  accessFlags := 1057
  interfaces := #[3]
  cf := some (fileOf pool4 8 #[] #[{ accessFlags := 1, nameIndex := 5, descriptorIndex := 6, attributes := #[] }] 1057 2 #[13] #[{ accessFlags := 26, nameIndex := 15, descriptorIndex := 16, attributes := #[] }])
  fields := #[{ name := "serialVersionUID", type := .long, accessFlags := 26, slot := 0, constantValue := 0 }]
  methods := #[k4m0]
  instanceTypes := #[]
  staticTypes := #[.long]
  resolved := Array.replicate 37 none
  statics := none }

def pool5 : Array CpInfo := pool [(1, .class_ 2), (0, u "java/lang/Comparable"), (0, .class_ 4), (0, u "java/lang/Object")] 7

/-- java/lang/Comparable -/
def k5 : Class := { plain "java/lang/Comparable" (some 0) with
  accessFlags := 1537
  interfaces := #[]
  cf := some (fileOf pool5 1 #[] #[] 1537 3 #[] #[])
  fields := #[]
  methods := #[]
  instanceTypes := #[]
  staticTypes := #[]
  resolved := Array.replicate 12 none
  statics := none }

def pool6 : Array CpInfo := pool [(1, .class_ 2), (0, u "java/lang/constant/Constable"), (0, .class_ 4), (0, u "java/lang/Object")] 6

/-- java/lang/constant/Constable -/
def k6 : Class := { plain "java/lang/constant/Constable" (some 0) with
  accessFlags := 1537
  interfaces := #[]
  cf := some (fileOf pool6 1 #[] #[] 1537 3 #[] #[])
  fields := #[]
  methods := #[]
  instanceTypes := #[]
  staticTypes := #[]
  resolved := Array.replicate 11 none
  statics := none }

def pool7 : Array CpInfo := pool [(1, .class_ 2), (0, u "java/lang/constant/ConstantDesc"), (0, .class_ 4), (0, u "java/lang/Object")] 32

/-- java/lang/constant/ConstantDesc -/
def k7 : Class := { plain "java/lang/constant/ConstantDesc" (some 0) with
  accessFlags := 1537
  interfaces := #[]
  cf := some (fileOf pool7 1 #[] #[] 1537 3 #[] #[])
  fields := #[]
  methods := #[]
  instanceTypes := #[]
  staticTypes := #[]
  resolved := Array.replicate 37 none
  statics := none }

def pool8 : Array CpInfo := pool [(1, .class_ 2), (0, u "java/lang/Long"), (15, .class_ 20), (1, u "java/lang/Integer"), (79, u "numberOfLeadingZeros"), (0, u "(J)I"), (133, .class_ 237), (1, u "java/lang/Long$LongCache"), (33, .class_ 272), (0, u "java/lang/Number"), (2, u "value"), (0, u "J"), (31, .methodref 18 309), (0, .nameAndType 100 310), (0, u "(I)I"), (50, u "TYPE"), (0, u "Ljava/lang/Class;"), (0, .class_ 364), (0, u "java/lang/Comparable"), (0, .class_ 366), (0, u "java/lang/constant/Constable"), (0, .class_ 368), (0, u "java/lang/constant/ConstantDesc"), (0, u "MIN_VALUE"), (1, u "MAX_VALUE"), (4, u "SIZE"), (0, u "I"), (1, u "BYTES"), (1, u "serialVersionUID")] 142

def k8c0 : Code := { maxStack := 3, maxLocals := 3, code := jdk_35_method_48_code, exceptionTable := #[], attributes := #[] }
def k8m0 : Method := { name := "numberOfLeadingZeros", desc := "(J)I", sig := { parameters := [.long], returnType := some .int }, accessFlags := 9, code := some k8c0 }
/-- java/lang/Long -/
def k8 : Class := { plain "java/lang/Long" (some 4) with
  accessFlags := 49
  interfaces := #[5, 6, 7]
  cf := some (fileOf pool8 1 #[.nestMembers #[235]] #[{ accessFlags := 9, nameIndex := 100, descriptorIndex := 101, attributes := #[] }] 49 271 #[363, 365, 367] #[{ accessFlags := 25, nameIndex := 369, descriptorIndex := 276, attributes := #[] }, { accessFlags := 25, nameIndex := 371, descriptorIndex := 276, attributes := #[] }, { accessFlags := 25, nameIndex := 361, descriptorIndex := 362, attributes := #[] }, { accessFlags := 18, nameIndex := 275, descriptorIndex := 276, attributes := #[] }, { accessFlags := 25, nameIndex := 376, descriptorIndex := 377, attributes := #[] }, { accessFlags := 25, nameIndex := 379, descriptorIndex := 377, attributes := #[] }, { accessFlags := 26, nameIndex := 381, descriptorIndex := 276, attributes := #[] }])
  fields := #[{ name := "MIN_VALUE", type := .long, accessFlags := 25, slot := 0, constantValue := 0 }, { name := "MAX_VALUE", type := .long, accessFlags := 25, slot := 1, constantValue := 0 }, { name := "TYPE", type := (.object "java/lang/Class"), accessFlags := 25, slot := 2, constantValue := 0 }, { name := "value", type := .long, accessFlags := 18, slot := 0, constantValue := 0 }, { name := "SIZE", type := .int, accessFlags := 25, slot := 3, constantValue := 0 }, { name := "BYTES", type := .int, accessFlags := 25, slot := 4, constantValue := 0 }, { name := "serialVersionUID", type := .long, accessFlags := 26, slot := 5, constantValue := 0 }]
  methods := #[k8m0]
  instanceTypes := #[.long]
  staticTypes := #[.long, .long, (.object "java/lang/Class"), .int, .int, .long]
  resolved := Array.replicate 524 none
  statics := none }

def pool9 : Array CpInfo := pool [(1, .class_ 2), (0, u "java/lang/Integer"), (16, u "digits"), (0, u "[C"), (32, u "numberOfLeadingZeros"), (0, u "(I)I"), (30, u "DigitOnes"), (0, u "[B"), (2, u "DigitTens"), (99, .class_ 190), (0, u "java/lang/Integer$IntegerCache"), (3, u "I"), (8, .class_ 204), (0, u "java/lang/Number"), (2, u "value"), (56, .integer 65536), (37, u "TYPE"), (0, u "Ljava/lang/Class;"), (0, .class_ 305), (0, u "java/lang/Comparable"), (0, .class_ 307), (0, u "java/lang/constant/Constable"), (0, .class_ 309), (0, u "java/lang/constant/ConstantDesc"), (0, u "MIN_VALUE"), (1, u "MAX_VALUE"), (3, u "SIZE"), (1, u "BYTES"), (1, u "serialVersionUID"), (0, u "J")] 131

def k9c0 : Code := { maxStack := 3, maxLocals := 2, code := jdk_33_method_47_code, exceptionTable := #[], attributes := #[] }
def k9m0 : Method := { name := "numberOfLeadingZeros", desc := "(I)I", sig := { parameters := [.int], returnType := some .int }, accessFlags := 9, code := some k9c0 }
/-- java/lang/Integer -/
def k9 : Class := { plain "java/lang/Integer" (some 4) with
  accessFlags := 49
  interfaces := #[5, 6, 7]
  cf := some (fileOf pool9 1 #[.nestMembers #[189]] #[{ accessFlags := 9, nameIndex := 53, descriptorIndex := 54, attributes := #[] }] 49 203 #[304, 306, 308] #[{ accessFlags := 25, nameIndex := 310, descriptorIndex := 194, attributes := #[] }, { accessFlags := 25, nameIndex := 312, descriptorIndex := 194, attributes := #[] }, { accessFlags := 25, nameIndex := 302, descriptorIndex := 303, attributes := #[] }, { accessFlags := 24, nameIndex := 19, descriptorIndex := 20, attributes := #[] }, { accessFlags := 24, nameIndex := 89, descriptorIndex := 86, attributes := #[] }, { accessFlags := 24, nameIndex := 85, descriptorIndex := 86, attributes := #[] }, { accessFlags := 18, nameIndex := 207, descriptorIndex := 194, attributes := #[] }, { accessFlags := 25, nameIndex := 316, descriptorIndex := 194, attributes := #[] }, { accessFlags := 25, nameIndex := 318, descriptorIndex := 194, attributes := #[] }, { accessFlags := 26, nameIndex := 320, descriptorIndex := 321, attributes := #[] }])
  fields := #[{ name := "MIN_VALUE", type := .int, accessFlags := 25, slot := 0, constantValue := 0 }, { name := "MAX_VALUE", type := .int, accessFlags := 25, slot := 1, constantValue := 0 }, { name := "TYPE", type := (.object "java/lang/Class"), accessFlags := 25, slot := 2, constantValue := 0 }, { name := "digits", type := (.array .char), accessFlags := 24, slot := 3, constantValue := 0 }, { name := "DigitTens", type := (.array .byte), accessFlags := 24, slot := 4, constantValue := 0 }, { name := "DigitOnes", type := (.array .byte), accessFlags := 24, slot := 5, constantValue := 0 }, { name := "value", type := .int, accessFlags := 18, slot := 0, constantValue := 0 }, { name := "SIZE", type := .int, accessFlags := 25, slot := 6, constantValue := 0 }, { name := "BYTES", type := .int, accessFlags := 25, slot := 7, constantValue := 0 }, { name := "serialVersionUID", type := .long, accessFlags := 26, slot := 8, constantValue := 0 }]
  methods := #[k9m0]
  instanceTypes := #[.int]
  staticTypes := #[.int, .int, (.object "java/lang/Class"), (.array .char), (.array .byte), (.array .byte), .int, .int, .long]
  resolved := Array.replicate 453 none
  statics := none }

def pool10 : Array CpInfo := pool [(1, .class_ 2), (0, u "java/lang/Math"), (1, .class_ 6), (1, u "java/lang/Object"), (0, u "<init>"), (0, u "()V"), (89, .class_ 100), (1, u "java/lang/Math$RandomNumberGeneratorHolder"), (20, u "(JJ)J"), (50, u "negativeZeroFloatBits"), (0, u "J"), (2, u "negativeZeroDoubleBits"), (68, u "$assertionsDisabled"), (0, u "Z"), (91, u "twoToTheDoubleScaleDown"), (0, u "D"), (4, u "twoToTheDoubleScaleUp"), (9, u "E"), (3, u "PI"), (2, u "TAU"), (2, u "DEGREES_TO_RADIANS"), (0, u "RADIANS_TO_DEGREES"), (27, u "addExact")] 66

def k10m0 : Method := { name := "<init>", desc := "()V", sig := { parameters := [], returnType := none }, accessFlags := 2, code := none }
def k10c1 : Code := { maxStack := 6, maxLocals := 6, code := jdk_29_method_25_code, exceptionTable := #[], attributes := #[] }
def k10m1 : Method := { name := "addExact", desc := "(JJ)J", sig := { parameters := [.long, .long], returnType := some .long }, accessFlags := 9, code := some k10c1 }
/-- java/lang/Math -/
def k10 : Class := { plain "java/lang/Math" (some 0) with
  accessFlags := 49
  interfaces := #[]
  cf := some (fileOf pool10 1 #[.nestMembers #[98]] #[{ accessFlags := 2, nameIndex := 7, descriptorIndex := 8, attributes := #[] }, { accessFlags := 9, nameIndex := 393, descriptorIndex := 121, attributes := #[] }] 49 4 #[] #[{ accessFlags := 25, nameIndex := 354, descriptorIndex := 339, attributes := #[] }, { accessFlags := 25, nameIndex := 358, descriptorIndex := 339, attributes := #[] }, { accessFlags := 25, nameIndex := 361, descriptorIndex := 339, attributes := #[] }, { accessFlags := 26, nameIndex := 364, descriptorIndex := 339, attributes := #[] }, { accessFlags := 26, nameIndex := 365, descriptorIndex := 339, attributes := #[] }, { accessFlags := 26, nameIndex := 172, descriptorIndex := 173, attributes := #[] }, { accessFlags := 26, nameIndex := 176, descriptorIndex := 173, attributes := #[] }, { accessFlags := 8, nameIndex := 344, descriptorIndex := 339, attributes := #[] }, { accessFlags := 8, nameIndex := 338, descriptorIndex := 339, attributes := #[] }, { accessFlags := 4120, nameIndex := 245, descriptorIndex := 246, attributes := #[] }])
  fields := #[{ name := "E", type := .double, accessFlags := 25, slot := 0, constantValue := 0 }, { name := "PI", type := .double, accessFlags := 25, slot := 1, constantValue := 0 }, { name := "TAU", type := .double, accessFlags := 25, slot := 2, constantValue := 0 }, { name := "DEGREES_TO_RADIANS", type := .double, accessFlags := 26, slot := 3, constantValue := 0 }, { name := "RADIANS_TO_DEGREES", type := .double, accessFlags := 26, slot := 4, constantValue := 0 }, { name := "negativeZeroFloatBits", type := .long, accessFlags := 26, slot := 5, constantValue := 0 }, { name := "negativeZeroDoubleBits", type := .long, accessFlags := 26, slot := 6, constantValue := 0 }, { name := "twoToTheDoubleScaleUp", type := .double, accessFlags := 8, slot := 7, constantValue := 0 }, { name := "twoToTheDoubleScaleDown", type := .double, accessFlags := 8, slot := 8, constantValue := 0 }, { name := "$assertionsDisabled", type := .boolean, accessFlags := 4120, slot := 9, constantValue := 0 }]
  methods := #[k10m0, k10m1]
  instanceTypes := #[]
  staticTypes := #[.double, .double, .double, .double, .double, .long, .long, .double, .double, .boolean]
  resolved := Array.replicate 460 none
  statics := none }

def pool11 : Array CpInfo := pool [(1, u "java/lang/Cloneable"), (0, .class_ 1), (0, u "java/lang/Object"), (0, .class_ 3)] 3

/-- java/lang/Cloneable -/
def k11 : Class := { plain "java/lang/Cloneable" (some 0) with
  accessFlags := 1537
  interfaces := #[]
  cf := some (fileOf pool11 2 #[] #[] 1537 4 #[] #[])
  fields := #[]
  methods := #[]
  instanceTypes := #[]
  staticTypes := #[]
  resolved := Array.replicate 8 none
  statics := none }

/-- the primitive byte -/
def k12 : Class := { plain "byte" none with kind := .primitive 'B', accessFlags := 0x411 }
/-- [B -/
def k13 : Class := { plain "[B" (some 0) with kind := .array 12 .byte, interfaces := #[11, 3], accessFlags := 1041 }

/-- the primitive int -/
def k14 : Class := { plain "int" none with kind := .primitive 'I', accessFlags := 0x411 }
/-- [I -/
def k15 : Class := { plain "[I" (some 0) with kind := .array 14 .int, interfaces := #[11, 3], accessFlags := 1041 }

/-- the primitive long -/
def k16 : Class := { plain "long" none with kind := .primitive 'J', accessFlags := 0x411 }
/-- [J -/
def k17 : Class := { plain "[J" (some 0) with kind := .array 16 .long, interfaces := #[11, 3], accessFlags := 1041 }

def heap : Heap := #[]
def classes : Array Class := #[k0, k1, k2, k3, k4, k5, k6, k7, k8, k9, k10, k11, k12, k13, k14, k15, k16, k17]
def interned : List (Array UInt16 × Addr) := []
def slotsUsed : Nat := 0
def theMethod : MethodId := ⟨1, 3⟩
def args0 : Array Value := #[.long 5, .long 6, .long 7, .long 8, .long 9, .long 3]
def aboutOver (below : List Frame) : State where
  vm := { classes := classes, interned := interned.toArray }
  heap := heap
  slotsUsed := slotsUsed
  threads := #[{ frames := .invoking theMethod args0 :: below }]
def below0 : List Frame := [.native { method := ⟨0, 0⟩, args := #[] }]
def about1 : State := aboutOver below0
def p0 : Program := .bare "" "" ""
def e0 : Env := launch0.env 0 0 0
theorem w_frames : about1.frames = Frame.invoking theMethod args0 :: below0 := rfl
set_option maxRecDepth 65536 in
theorem w_args : argsFit about1.vm theMethod args0 = true := by decide +kernel
set_option maxRecDepth 65536 in
theorem w_heap : heapFits about1 = true := by decide +kernel
set_option maxRecDepth 65536 in
theorem w_runnable : about1.curStatus? = some .runnable := by decide +kernel
set_option maxRecDepth 65536 in
theorem w_alone : about1.alone = true := by decide +kernel
set_option maxRecDepth 65536 in
theorem w_named : about1.methodNamed? x = some theMethod := by decide +kernel
set_option maxRecDepth 65536 in
theorem w_hears : about1.hears theMethod below0 = true := by decide +kernel
set_option maxRecDepth 65536 in
theorem w_ripe : about1.ripe theMethod args0 below0 = true := by decide +kernel
theorem w_running : about1.status = .running := rfl
set_option maxRecDepth 65536 in
theorem w_room : about1.hasRoom e0.platform room_1 = true :=
  launch0.hasRoom_least _ room_1 (by decide +kernel) (by decide +kernel) (by decide +kernel) (by decide +kernel) (by decide +kernel) (by decide +kernel)
theorem allAtoms_all (ts : List Jvm.Cond) (a : Array Jvm.Value) (st : Jvm.State) : (allAtoms ts).before a st = ts.all (fun c => c.before a st) := by
  induction ts with
  | nil => rfl
  | cons c t ih =>
    show (Jvm.Cond.and c (allAtoms t)).before a st = _
    rw [Jvm.Cond.before_and, ih, List.all_cons]
def words1 : List Jvm.Cond := Jvm.Cond.code x code maxLocals ret :: tables_1
/-- a 'code' word, met by the world's own term for the bytes: nothing is compared byte by byte -/
theorem code_word {y : MethodName} {bytes : ByteArray} {mx : Nat} {rt : Option FieldType} {a : Array Value} {s : State} {m : MethodId} {meth : Method} {c : Code} (h1 : s.methodNamed? y = some m) (h2 : s.vm.method? m = some meth) (h3 : meth.code = some c) (h4 : c.code = bytes)
    (h5 : (c.maxLocals == mx && c.exceptionTable.isEmpty && decide (c.maxStack ≤ mostOperands) && decide (meth.sig.returnType = rt) && !meth.locks && decide (parseMethodDescriptor y.desc = some meth.sig)) = true) : (Jvm.Cond.code y bytes mx rt).before a s = true := by
  simp only [Bool.and_eq_true, beq_iff_eq, Bool.not_eq_true', decide_eq_true_eq] at h5
  obtain ⟨⟨⟨⟨⟨g1, g2⟩, g3⟩, g4⟩, g5⟩, g6⟩ := h5
  simp [Cond.before, Cond.holds, Cond.value, h1, h2, h3, h4, g1, g2, g3, g4, g5, g6]
def isCode : Jvm.Cond → Bool
  | .code _ _ _ _ => true
  | _ => false
theorem all_split {L : List Jvm.Cond} {P : Jvm.Cond → Bool} (h1 : L.all (fun c => isCode c || P c) = true) (h2 : ∀ c ∈ L.filter isCode, P c = true) : L.all P = true := by
  refine List.all_eq_true.mpr fun c hc => ?_
  have h := List.all_eq_true.mp h1 c hc
  rcases Bool.eq_false_or_eq_true (isCode c) with hi | hi
  · exact h2 c (List.mem_filter.mpr ⟨hc, hi⟩)
  · simpa [hi] using h
set_option maxRecDepth 65536 in
theorem w_c0 : (Jvm.Cond.code x code maxLocals ret).before args0 about1 = true := code_word (m := ⟨1, 3⟩) (meth := k1m3) (c := k1c3) (by decide +kernel) rfl rfl rfl (by decide +kernel)
set_option maxRecDepth 65536 in
theorem w_c1 : (Jvm.Cond.code ({ cls := "com/example/pricewright/pricewright/core/LongSumTableGetPinLaw", name := "key", desc := "(J)J" } : Jvm.MethodName) method_2_code (2 : Nat) (Option.some Jvm.ClassFile.FieldType.long)).before args0 about1 = true := code_word (m := ⟨1, 1⟩) (meth := k1m1) (c := k1c1) (by decide +kernel) rfl rfl rfl (by decide +kernel)
set_option maxRecDepth 65536 in
theorem w_c2 : (Jvm.Cond.code ({ cls := "com/example/pricewright/pricewright/core/LongSumTable", name := "<init>", desc := "()V" } : Jvm.MethodName) prog_19_method_1_code (1 : Nat) (Option.none : Option Jvm.ClassFile.FieldType)).before args0 about1 = true := code_word (m := ⟨2, 0⟩) (meth := k2m0) (c := k2c0) (by decide +kernel) rfl rfl rfl (by decide +kernel)
set_option maxRecDepth 65536 in
theorem w_c3 : (Jvm.Cond.code ({ cls := "com/example/pricewright/pricewright/core/LongSumTable", name := "<init>", desc := "(I)V" } : Jvm.MethodName) prog_19_method_2_code (3 : Nat) (Option.none : Option Jvm.ClassFile.FieldType)).before args0 about1 = true := code_word (m := ⟨2, 1⟩) (meth := k2m1) (c := k2c1) (by decide +kernel) rfl rfl rfl (by decide +kernel)
set_option maxRecDepth 65536 in
theorem w_c4 : (Jvm.Cond.code ({ cls := "java/lang/Object", name := "<init>", desc := "()V" } : Jvm.MethodName) object_method_1_code (1 : Nat) (Option.none : Option Jvm.ClassFile.FieldType)).before args0 about1 = true := code_word (m := ⟨0, 0⟩) (meth := k0m0) (c := k0c0) (by decide +kernel) rfl rfl rfl (by decide +kernel)
set_option maxRecDepth 65536 in
theorem w_c5 : (Jvm.Cond.code ({ cls := "java/lang/Long", name := "numberOfLeadingZeros", desc := "(J)I" } : Jvm.MethodName) jdk_35_method_48_code (3 : Nat) (Option.some Jvm.ClassFile.FieldType.int)).before args0 about1 = true := code_word (m := ⟨8, 0⟩) (meth := k8m0) (c := k8c0) (by decide +kernel) rfl rfl rfl (by decide +kernel)
set_option maxRecDepth 65536 in
theorem w_c6 : (Jvm.Cond.code ({ cls := "java/lang/Integer", name := "numberOfLeadingZeros", desc := "(I)I" } : Jvm.MethodName) jdk_33_method_47_code (2 : Nat) (Option.some Jvm.ClassFile.FieldType.int)).before args0 about1 = true := code_word (m := ⟨9, 0⟩) (meth := k9m0) (c := k9c0) (by decide +kernel) rfl rfl rfl (by decide +kernel)
set_option maxRecDepth 65536 in
theorem w_c7 : (Jvm.Cond.code ({ cls := "com/example/pricewright/pricewright/core/LongSumTable", name := "add", desc := "(JJ)V" } : Jvm.MethodName) prog_19_method_3_code (6 : Nat) (Option.none : Option Jvm.ClassFile.FieldType)).before args0 about1 = true := code_word (m := ⟨2, 2⟩) (meth := k2m2) (c := k2c2) (by decide +kernel) rfl rfl rfl (by decide +kernel)
set_option maxRecDepth 65536 in
theorem w_c8 : (Jvm.Cond.code ({ cls := "com/example/pricewright/pricewright/core/LongSumTable", name := "held", desc := "(J)J" } : Jvm.MethodName) prog_19_method_7_code (2 : Nat) (Option.some Jvm.ClassFile.FieldType.long)).before args0 about1 = true := code_word (m := ⟨2, 4⟩) (meth := k2m4) (c := k2c4) (by decide +kernel) rfl rfl rfl (by decide +kernel)
set_option maxRecDepth 65536 in
theorem w_c9 : (Jvm.Cond.code ({ cls := "com/example/pricewright/pricewright/core/LongSumTable", name := "index", desc := "(J)I" } : Jvm.MethodName) prog_19_method_8_code (5 : Nat) (Option.some Jvm.ClassFile.FieldType.int)).before args0 about1 = true := code_word (m := ⟨2, 5⟩) (meth := k2m5) (c := k2c5) (by decide +kernel) rfl rfl rfl (by decide +kernel)
set_option maxRecDepth 65536 in
theorem w_c10 : (Jvm.Cond.code ({ cls := "com/example/pricewright/pricewright/core/LongSumTable", name := "get", desc := "(J)J" } : Jvm.MethodName) prog_19_method_4_code (4 : Nat) (Option.some Jvm.ClassFile.FieldType.long)).before args0 about1 = true := code_word (m := ⟨2, 3⟩) (meth := k2m3) (c := k2c3) (by decide +kernel) rfl rfl rfl (by decide +kernel)
set_option maxRecDepth 65536 in
theorem w_c11 : (Jvm.Cond.code ({ cls := "com/example/pricewright/pricewright/core/LongSumTableGetPinLaw", name := "expect", desc := "(JIJJJJJJ)J" } : Jvm.MethodName) method_3_code (17 : Nat) (Option.some Jvm.ClassFile.FieldType.long)).before args0 about1 = true := code_word (m := ⟨1, 2⟩) (meth := k1m2) (c := k1c2) (by decide +kernel) rfl rfl rfl (by decide +kernel)
set_option maxRecDepth 65536 in
theorem w_c12 : (Jvm.Cond.code ({ cls := "com/example/pricewright/pricewright/core/LongSumTable", name := "resize", desc := "(I)V" } : Jvm.MethodName) prog_19_method_9_code (4 : Nat) (Option.none : Option Jvm.ClassFile.FieldType)).before args0 about1 = true := code_word (m := ⟨2, 6⟩) (meth := k2m6) (c := k2c6) (by decide +kernel) rfl rfl rfl (by decide +kernel)
set_option maxRecDepth 65536 in
theorem w_c13 : (Jvm.Cond.code ({ cls := "com/example/pricewright/pricewright/core/LongSumTable", name := "put", desc := "(JJ)V" } : Jvm.MethodName) prog_19_method_10_code (6 : Nat) (Option.none : Option Jvm.ClassFile.FieldType)).before args0 about1 = true := code_word (m := ⟨2, 7⟩) (meth := k2m7) (c := k2c7) (by decide +kernel) rfl rfl rfl (by decide +kernel)
set_option maxRecDepth 65536 in
theorem w_c14 : (Jvm.Cond.code ({ cls := "java/lang/Math", name := "addExact", desc := "(JJ)J" } : Jvm.MethodName) jdk_29_method_25_code (6 : Nat) (Option.some Jvm.ClassFile.FieldType.long)).before args0 about1 = true := code_word (m := ⟨10, 1⟩) (meth := k10m1) (c := k10c1) (by decide +kernel) rfl rfl rfl (by decide +kernel)
def codes1 : List Jvm.Cond := [Jvm.Cond.code x code maxLocals ret, Jvm.Cond.code ({ cls := "com/example/pricewright/pricewright/core/LongSumTableGetPinLaw", name := "key", desc := "(J)J" } : Jvm.MethodName) method_2_code (2 : Nat) (Option.some Jvm.ClassFile.FieldType.long), Jvm.Cond.code ({ cls := "com/example/pricewright/pricewright/core/LongSumTable", name := "<init>", desc := "()V" } : Jvm.MethodName) prog_19_method_1_code (1 : Nat) (Option.none : Option Jvm.ClassFile.FieldType), Jvm.Cond.code ({ cls := "com/example/pricewright/pricewright/core/LongSumTable", name := "<init>", desc := "(I)V" } : Jvm.MethodName) prog_19_method_2_code (3 : Nat) (Option.none : Option Jvm.ClassFile.FieldType), Jvm.Cond.code ({ cls := "java/lang/Object", name := "<init>", desc := "()V" } : Jvm.MethodName) object_method_1_code (1 : Nat) (Option.none : Option Jvm.ClassFile.FieldType), Jvm.Cond.code ({ cls := "java/lang/Long", name := "numberOfLeadingZeros", desc := "(J)I" } : Jvm.MethodName) jdk_35_method_48_code (3 : Nat) (Option.some Jvm.ClassFile.FieldType.int), Jvm.Cond.code ({ cls := "java/lang/Integer", name := "numberOfLeadingZeros", desc := "(I)I" } : Jvm.MethodName) jdk_33_method_47_code (2 : Nat) (Option.some Jvm.ClassFile.FieldType.int), Jvm.Cond.code ({ cls := "com/example/pricewright/pricewright/core/LongSumTable", name := "add", desc := "(JJ)V" } : Jvm.MethodName) prog_19_method_3_code (6 : Nat) (Option.none : Option Jvm.ClassFile.FieldType), Jvm.Cond.code ({ cls := "com/example/pricewright/pricewright/core/LongSumTable", name := "held", desc := "(J)J" } : Jvm.MethodName) prog_19_method_7_code (2 : Nat) (Option.some Jvm.ClassFile.FieldType.long), Jvm.Cond.code ({ cls := "com/example/pricewright/pricewright/core/LongSumTable", name := "index", desc := "(J)I" } : Jvm.MethodName) prog_19_method_8_code (5 : Nat) (Option.some Jvm.ClassFile.FieldType.int), Jvm.Cond.code ({ cls := "com/example/pricewright/pricewright/core/LongSumTable", name := "get", desc := "(J)J" } : Jvm.MethodName) prog_19_method_4_code (4 : Nat) (Option.some Jvm.ClassFile.FieldType.long), Jvm.Cond.code ({ cls := "com/example/pricewright/pricewright/core/LongSumTableGetPinLaw", name := "expect", desc := "(JIJJJJJJ)J" } : Jvm.MethodName) method_3_code (17 : Nat) (Option.some Jvm.ClassFile.FieldType.long), Jvm.Cond.code ({ cls := "com/example/pricewright/pricewright/core/LongSumTable", name := "resize", desc := "(I)V" } : Jvm.MethodName) prog_19_method_9_code (4 : Nat) (Option.none : Option Jvm.ClassFile.FieldType), Jvm.Cond.code ({ cls := "com/example/pricewright/pricewright/core/LongSumTable", name := "put", desc := "(JJ)V" } : Jvm.MethodName) prog_19_method_10_code (6 : Nat) (Option.none : Option Jvm.ClassFile.FieldType), Jvm.Cond.code ({ cls := "java/lang/Math", name := "addExact", desc := "(JJ)J" } : Jvm.MethodName) jdk_29_method_25_code (6 : Nat) (Option.some Jvm.ClassFile.FieldType.long)]
set_option maxRecDepth 65536 in
theorem codes_eq : words1.filter isCode = codes1 := rfl
theorem w_codes : ∀ c ∈ words1.filter isCode, c.before args0 about1 = true := by
  rw [codes_eq]
  intro c hc
  simp only [codes1, List.mem_cons, List.not_mem_nil, or_false] at hc
  rcases hc with rfl | rfl | rfl | rfl | rfl | rfl | rfl | rfl | rfl | rfl | rfl | rfl | rfl | rfl | rfl
  · exact w_c0
  · exact w_c1
  · exact w_c2
  · exact w_c3
  · exact w_c4
  · exact w_c5
  · exact w_c6
  · exact w_c7
  · exact w_c8
  · exact w_c9
  · exact w_c10
  · exact w_c11
  · exact w_c12
  · exact w_c13
  · exact w_c14
set_option maxRecDepth 65536 in
theorem w_t1 : (words1.take 24).all (fun c => isCode c || c.before args0 about1) = true := by decide +kernel
set_option maxRecDepth 65536 in
theorem w_t2 : ((words1.drop 24).take 24).all (fun c => isCode c || c.before args0 about1) = true := by decide +kernel
set_option maxRecDepth 65536 in
theorem w_t3 : ((words1.drop 24).drop 24).all (fun c => isCode c || c.before args0 about1) = true := by decide +kernel
theorem w_tables : (allAtoms (Jvm.Cond.code x code maxLocals ret :: tables_1)).before args0 about1 = true := by
  rw [allAtoms_all]
  show words1.all (fun c => c.before args0 about1) = true
  refine all_split ?_ w_codes
  rw [← List.take_append_drop 24 words1, List.all_append, w_t1, ← List.take_append_drop 24 (words1.drop 24), List.all_append, w_t2, w_t3]
  rfl
set_option maxRecDepth 65536 in
theorem w_case : (Jvm.Cond.and given_1 narrow_1).before args0 about1 = true := by decide +kernel
theorem w_applies : (headSpec (Jvm.Cond.code x code maxLocals ret :: tables_1) room_1).applies x e0.platform about1 = true :=
  (Spec.applies_iff w_frames).mpr ⟨w_running, w_runnable, w_alone, w_named, w_hears, w_ripe, w_room, w_tables⟩
theorem atStart : AtStart classFile x code maxLocals ret World_1 tables_1 room_1 Calls_1 rest_1 Pre_1 launch0 p0 e0 about1 theMethod args0 below0 :=
  ⟨lists_1, trivial, launch0.admits_env _ _ _, launch0.least_env, fairChoices_fair.cas, fairChoices_fair.clock, w_frames, w_args, w_heap, w_applies, trivial, trivial, w_case⟩
end start1
theorem witness_1 : WitnessClaimed_1 := ⟨start1.p0, start1.e0, start1.about1, start1.theMethod, start1.args0, start1.below0, start1.atStart⟩
end Jvm.Pilot.@@N@@
